import JvmDerived
import JvmDerived.Pilot.@@N@@Statement
import JvmDerived.Pilot.@@N@@Code
set_option linter.unusedVariables false
set_option linter.unusedSimpArgs false
namespace Jvm.RoadKit
open Sem ClassFile Op Lib Jvm.Stand Jvm.Free Jvm.LawKit
section New
variable {p : Program} {l : Launch} {e : Env} {R : Room} {s : State} {m : MethodId} {args : Array Value} {below : List Frame} {meth : Method} {c : Code} {T : State} {locs : List Loc} {cells slots : Nat}
theorem retI (X : Stand p l e R s m args below meth c T locs cells slots) (hx : p.tables.exec = Jvm.exec) {pc : Nat} {Ls : Array Slot} {z : Int32} {rest : List Value} (hret : meth.sig.returnType = some .int) (hd : decode c.code pc = .ok (.ireturn, 1)) {fs : List Frame}
    (hl : ∀ (f : JFrame) (acts : List Action), f.method = m → f.locked = none → f.entered = [] → (doReturn e (T.setTop f) acts (some (.int z))).1 = T.setFrames fs) : Steps p.tables e below (T.setTop (mkF m pc Ls (.int z :: rest))) (T.setFrames fs) := by
  have hm' : T.vm.method? m = some meth := X.method'
  have hn : narrow .int (.int z) = .int z := rfl
  show Steps p.tables e below (T.setTop { method := m, pc := pc, locals := Ls, stack := _ :: rest, locked := none }) _
  jvm_step X.here [X.here.top, hx, hd, hm', hret, hn]
  first | (intro acts; rw [hl _ acts rfl rfl rfl]) | rw [hl _ _ rfl rfl rfl]
  exact Steps.refl _
end New
end Jvm.RoadKit
@@BLOCK:NumsL.lean.txt@@
@@BLOCK:SetKit.lean.txt@@
/- laws to paste: Road.eqW, Road.backV (cut by pick.py; bodies as the Statement names them) -/
namespace Jvm.Pilot.@@N@@
namespace StrChars
open Jvm Sem ClassFile Op Lib Jvm.Stand Jvm.Free.XT Jvm.Free.ALB Jvm.Free.JM Jvm.Free
open Jvm.Lib.Cold (StaticIs)
def Ch (a : Addr) (A : Cell) (U : State) : Prop := Arr .char a A U ∧ Typed .char A
theorem Ch.mv {a : Addr} {A : Cell} {U U' : State} (h : Ch a A U) (hal : U.vm.Alike U'.vm) (hh : U'.heap = U.heap) : Ch a A U' := ⟨h.1.mv hal hh, h.2⟩
theorem Ch.keep {a : Addr} {A : Cell} {U U' : State} (h : Ch a A U) (hal : U.vm.Alike U'.vm) (hk : U'.heap[a]? = some A) : Ch a A U' := ⟨h.1.keep hal hk, h.2⟩
def cv (A : Cell) (i : Nat) : Int32 := match A.slots[i]? with | some (.int x) => x | _ => 0
theorem Ch.get {a : Addr} {A : Cell} {U : State} (h : Ch a A U) {i : Nat} (hi : i < A.slots.size) : A.slots[i]? = some (.int (cv A i)) := by
  have e := Array.getElem?_eq_getElem hi
  have f := h.2 i _ e
  unfold cv; rw [e]
  generalize A.slots[i] = v at f
  cases v <;> simp [fits] at f ⊢
def lo8 (x : Int32) : Int32 := x.toInt8.toInt32
theorem fits_lo8 (y : Int32) : fits .byte (.int (lo8 y)) = true := by
  have h1 := y.toInt8.le_toInt
  have h2 := y.toInt8.toInt_lt
  simp only [lo8, fits, Bool.and_eq_true, decide_eq_true_eq, Int32.le_iff_toInt_le, Int8.toInt_toInt32, show (-128 : Int32).toInt = -128 from by decide, show (127 : Int32).toInt = 127 from by decide]
  omega
def Laid (A A' : Cell) (lo hi : Nat) (f : Nat → Value) : Prop := A'.cls = A.cls ∧ A'.vm = A.vm ∧ A'.slots.size = A.slots.size ∧ ∀ i, A'.slots[i]? = if lo ≤ i ∧ i < hi then some (f i) else A.slots[i]?
theorem Laid.zero (A : Cell) (lo : Nat) (f : Nat → Value) : Laid A A lo (lo + 0) f := ⟨rfl, rfl, rfl, fun i => by rw [if_neg (by omega)]⟩
theorem Laid.step {A Ak : Cell} {lo k : Nat} {f : Nat → Value} {v : Value} (h : Laid A Ak lo k f) (hlo : lo ≤ k) (hk : k < Ak.slots.size) (hv : v = f k) : Laid A (Ak.setSlot k v) lo (k + 1) f := by
  refine ⟨h.1, h.2.1, by simpa [Cell.setSlot] using h.2.2.1, fun i => ?_⟩
  by_cases e : k = i
  · subst e; rw [Cell.slots_setSlot_self v hk, if_pos (by omega), hv]
  · rw [Cell.slots_setSlot_ne v e, h.2.2.2 i]
    by_cases q : lo ≤ i ∧ i < k
    · rw [if_pos q, if_pos (by omega)]
    · rw [if_neg q, if_neg (by omega)]
def U16 : String := "java/lang/StringUTF16"
namespace Cmp5
def yN : MethodName := ⟨"java/lang/StringUTF16", "compress", "([CI[BII)I"⟩
abbrev yB : ByteArray := jdk_52_method_21_code
theorem d0 : decode yB 0 = .ok (.iconst 0, 1) := by decide +kernel
theorem d1 : decode yB 1 = .ok (.istore 5, 2) := by decide +kernel
theorem d3 : decode yB 3 = .ok (.iload 5, 2) := by decide +kernel
theorem d5 : decode yB 5 = .ok (.iload 4, 2) := by decide +kernel
theorem d7 : decode yB 7 = .ok (.if_icmp (.ge) 37, 3) := by decide +kernel
theorem d10 : decode yB 10 = .ok (.aload_n 0, 1) := by decide +kernel
theorem d11 : decode yB 11 = .ok (.iload_n 1, 1) := by decide +kernel
theorem d12 : decode yB 12 = .ok (.caload, 1) := by decide +kernel
theorem d13 : decode yB 13 = .ok (.istore 6, 2) := by decide +kernel
theorem d15 : decode yB 15 = .ok (.iload 6, 2) := by decide +kernel
theorem d17 : decode yB 17 = .ok (.sipush 255, 3) := by decide +kernel
theorem d20 : decode yB 20 = .ok (.if_icmp (.le) 6, 3) := by decide +kernel
theorem d26 : decode yB 26 = .ok (.aload_n 2, 1) := by decide +kernel
theorem d27 : decode yB 27 = .ok (.iload_n 3, 1) := by decide +kernel
theorem d28 : decode yB 28 = .ok (.iload 6, 2) := by decide +kernel
theorem d30 : decode yB 30 = .ok (.i2b, 1) := by decide +kernel
theorem d31 : decode yB 31 = .ok (.bastore, 1) := by decide +kernel
theorem d32 : decode yB 32 = .ok (.iinc 1 1, 3) := by decide +kernel
theorem d35 : decode yB 35 = .ok (.iinc 3 1, 3) := by decide +kernel
theorem d38 : decode yB 38 = .ok (.iinc 5 1, 3) := by decide +kernel
theorem d41 : decode yB 41 = .ok (.goto (-38), 3) := by decide +kernel
theorem d44 : decode yB 44 = .ok (.iload 4, 2) := by decide +kernel
theorem d46 : decode yB 46 = .ok (.ireturn, 1) := by decide +kernel
def site : List Cond := []
def tab : Cond := tabOf yN yB 7 (some .int) site
def P (b : Addr) (A : Cell) (d : Addr) (B : Cell) (o q len : Nat) (args : Array Value) (s : State) : Prop := args = #[.ref b, .int (Int32.ofNat o), .ref d, .int (Int32.ofNat q), .int (Int32.ofNat len)] ∧ Ch b A s ∧ Arr .byte d B s ∧ b ≠ d ∧ o + len ≤ A.slots.size ∧ q + len ≤ B.slots.size ∧ ∀ i, i < len → ¬ 255 < cv A (o + i)
def E (b : Addr) (A : Cell) (d : Addr) (B : Cell) (o q len : Nat) (r : Option Value) (s u : State) : Prop := r = some (.int (Int32.ofNat len)) ∧ ∃ B', Put d B' s u ∧ Laid B B' q (q + len) (fun j => Value.int (lo8 (cv A (o + (j - q)))))
theorem law (l : Launch) (b : Addr) (A : Cell) (d : Addr) (B : Cell) (o q len : Nat) : Law l yN 5 5 0 0 yB 7 (some .int) site (P b A d B o q len) (E b A d B o q len) (copyLocs d q len) 0 0 := by
  refine Law.of_walk (plainFor_of_name (by decide +kernel)) (by decide +kernel) (by decide +kernel) (by decide) (fun _ _ h => by rw [h.1]; rfl) (fun _ U U' hal hh h => ⟨h.1, h.2.1.mv hal hh, h.2.2.1.mv hal hh, h.2.2.2⟩) (fun r U U' V V' h1 hal h2 h => ⟨h.1, h.2.elim fun B' q => ⟨B', q.1.mv h1 h2, q.2⟩⟩) ?_
  intro p e s m args below meth c s₁ X0 hexec hbytes hml hret hlk hnm hown hh0 W hP
  obtain ⟨rfl, hA, hB, hne, l1, l2, hp⟩ := hP
  have c1 : Steps p.tables e below (s₁.setTop (entryFrame m #[.ref b, .int (Int32.ofNat o), .ref d, .int (Int32.ofNat q), .int (Int32.ofNat len)] 7)) (s₁.setTop (mkF m 0 #[.val (.ref b), .val (.int (Int32.ofNat o)), .val (.ref d), .val (.int (Int32.ofNat q)), .val (.int (Int32.ofNat len)), .unset, .unset] [])) := entry rfl
  have hA0 := hA.1.mv X0.warmed.alike hh0
  have hB0 := hB.mv X0.warmed.alike hh0
  have a31 := hA.1.2.2.2
  have c2 : Steps p.tables e below (s₁.setTop (entryFrame m #[.ref b, .int (Int32.ofNat o), .ref d, .int (Int32.ofNat q), .int (Int32.ofNat len)] 7)) (s₁.setTop (mkF m 3 #[.val (.ref b), .val (.int (Int32.ofNat o)), .val (.ref d), .val (.int (Int32.ofNat q)), .val (.int (Int32.ofNat len)), .val (.int 0), .unset] [])) := c1.trans (by
    refine iconstV X0.here hexec rfl 0 (hb hbytes d0) (by decide) ?_
    refine XS.istore X0.here hexec rfl (hb hbytes d1) rfl rfl ?_
    exact Steps.refl _)
  have loop : ∀ (r i : Nat), i + r = len → ∀ (z : Slot), (z = .unset ∨ ∃ w, z = .val w ∧ w.category = 1) → ∀ (Tl : State) (Bk : Cell), Stand p l e { frames := 0, locals := 0, cells := 0, slots := 0 } s m #[.ref b, .int (Int32.ofNat o), .ref d, .int (Int32.ofNat q), .int (Int32.ofNat len)] below meth c Tl ([] ++ copyLocs d q i) 0 0 → Put d Bk s₁ Tl → Laid B Bk q (q + i) (fun j => Value.int (lo8 (cv A (o + (j - q))))) →
      Steps p.tables e below (s₁.setTop (entryFrame m #[.ref b, .int (Int32.ofNat o), .ref d, .int (Int32.ofNat q), .int (Int32.ofNat len)] 7)) (Tl.setTop (mkF m 3 #[.val (.ref b), .val (.int (Int32.ofNat (o + i))), .val (.ref d), .val (.int (Int32.ofNat (q + i))), .val (.int (Int32.ofNat len)), .val (.int (Int32.ofNat i)), z] [])) → ∃ (T' : State) (B' : Cell) (z' : Slot), Stand p l e { frames := 0, locals := 0, cells := 0, slots := 0 } s m #[.ref b, .int (Int32.ofNat o), .ref d, .int (Int32.ofNat q), .int (Int32.ofNat len)] below meth c T' ([] ++ copyLocs d q len) 0 0 ∧ Put d B' s₁ T' ∧ Laid B B' q (q + len) (fun j => Value.int (lo8 (cv A (o + (j - q))))) ∧
      Steps p.tables e below (s₁.setTop (entryFrame m #[.ref b, .int (Int32.ofNat o), .ref d, .int (Int32.ofNat q), .int (Int32.ofNat len)] 7)) (T'.setTop (mkF m 3 #[.val (.ref b), .val (.int (Int32.ofNat (o + len))), .val (.ref d), .val (.int (Int32.ofNat (q + len))), .val (.int (Int32.ofNat len)), .val (.int (Int32.ofNat len)), z'] [])) := by
    intro r
    induction r with
    | zero =>
      intro i hi z hz Tl Bk Xl pl fl cl
      have hil : i = len := by omega
      rw [hil] at Xl fl cl
      exact ⟨Tl, Bk, z, Xl, pl, fl, cl⟩
    | succ r ih =>
      intro i hi z hz Tl Bk Xl pl fl cl
      have all := X0.warmed.alike.symm.trans Xl.warmed.alike
      have hAl := hA0.keep all (pl.other hne hA0.1)
      have hBk := hB0.like all pl.1 fl.1 fl.2.1 fl.2.2.1
      have hlt : q + i < Bk.slots.size := by rw [fl.2.2.1]; omega
      have c3 : Steps p.tables e below (s₁.setTop (entryFrame m #[.ref b, .int (Int32.ofNat o), .ref d, .int (Int32.ofNat q), .int (Int32.ofNat len)] 7)) (Tl.setTop (mkF m 12 #[.val (.ref b), .val (.int (Int32.ofNat (o + i))), .val (.ref d), .val (.int (Int32.ofNat (q + i))), .val (.int (Int32.ofNat len)), .val (.int (Int32.ofNat i)), z] [.int (Int32.ofNat (o + i)), .ref b])) := cl.trans (by
        refine XS.iload Xl.here hexec rfl (hb hbytes d3) rfl ?_
        refine XS.iload Xl.here hexec rfl (hb hbytes d5) rfl ?_
        refine XS.icmpNo Xl.here hexec rfl (hb hbytes d7) rfl (ii_ge_f (lt32 (by omega) (by omega))) ?_
        refine XS.aloadN Xl.here hexec rfl (hb hbytes d10) rfl rfl ?_
        refine XS.iloadN Xl.here hexec rfl (hb hbytes d11) rfl ?_
        exact Steps.refl _)
      have c4 : Steps p.tables e below (s₁.setTop (entryFrame m #[.ref b, .int (Int32.ofNat o), .ref d, .int (Int32.ofNat q), .int (Int32.ofNat len)] 7)) (Tl.setTop (mkF m 13 #[.val (.ref b), .val (.int (Int32.ofNat (o + i))), .val (.ref d), .val (.int (Int32.ofNat (q + i))), .val (.int (Int32.ofNat len)), .val (.int (Int32.ofNat i)), z] [.int (cv A (o + i))])) := c3.trans (by
        refine Xl.aget hexec hAl rfl (hA.get (i := o + i) (by omega)) rfl rfl (hb hbytes d12) ?_
        exact Steps.refl _)
      have c5 : Steps p.tables e below (s₁.setTop (entryFrame m #[.ref b, .int (Int32.ofNat o), .ref d, .int (Int32.ofNat q), .int (Int32.ofNat len)] 7)) (Tl.setTop (mkF m 15 #[.val (.ref b), .val (.int (Int32.ofNat (o + i))), .val (.ref d), .val (.int (Int32.ofNat (q + i))), .val (.int (Int32.ofNat len)), .val (.int (Int32.ofNat i)), .val (.int (cv A (o + i)))] [])) := c4.trans (by
        refine XS.istoreS Xl.here hexec rfl (hb hbytes d13) rfl rfl hz ?_
        exact Steps.refl _)
      have c6 : Steps p.tables e below (s₁.setTop (entryFrame m #[.ref b, .int (Int32.ofNat o), .ref d, .int (Int32.ofNat q), .int (Int32.ofNat len)] 7)) (Tl.setTop (mkF m 31 #[.val (.ref b), .val (.int (Int32.ofNat (o + i))), .val (.ref d), .val (.int (Int32.ofNat (q + i))), .val (.int (Int32.ofNat len)), .val (.int (Int32.ofNat i)), .val (.int (cv A (o + i)))] [.int (lo8 (cv A (o + i))), .int (Int32.ofNat (q + i)), .ref d])) := c5.trans (by
        refine XS.iload Xl.here hexec rfl (hb hbytes d15) rfl ?_
        refine sipushV Xl.here hexec rfl 255 (hb hbytes d17) (by decide) ?_
        refine XS.icmpYes Xl.here hexec rfl (pc0 := 20) rfl (hb hbytes d20) rfl (ii_le_t (hp i (by omega))) (by decide) rfl ?_
        refine XS.aloadN Xl.here hexec rfl (hb hbytes d26) rfl rfl ?_
        refine XS.iloadN Xl.here hexec rfl (hb hbytes d27) rfl ?_
        refine XS.iload Xl.here hexec rfl (hb hbytes d28) rfl ?_
        refine i2b Xl.here hexec rfl (hb hbytes d30) rfl ?_
        exact Steps.refl _)
      obtain ⟨T7, X7, p7, st7⟩ := Xl.aput hexec hBk rfl hlt rfl (fits_lo8 (cv A (o + i))) (g := (mkF m 31 #[.val (.ref b), .val (.int (Int32.ofNat (o + i))), .val (.ref d), .val (.int (Int32.ofNat (q + i))), .val (.int (Int32.ofNat len)), .val (.int (Int32.ofNat i)), .val (.int (cv A (o + i)))] [.int (lo8 (cv A (o + i))), .int (Int32.ofNat (q + i)), .ref d])) rfl (rest := []) rfl (hb hbytes d31)
      have c8 : Steps p.tables e below (s₁.setTop (entryFrame m #[.ref b, .int (Int32.ofNat o), .ref d, .int (Int32.ofNat q), .int (Int32.ofNat len)] 7)) (T7.setTop (mkF m 32 #[.val (.ref b), .val (.int (Int32.ofNat (o + i))), .val (.ref d), .val (.int (Int32.ofNat (q + i))), .val (.int (Int32.ofNat len)), .val (.int (Int32.ofNat i)), .val (.int (cv A (o + i)))] [])) := c6.trans (st7 _ (Steps.refl _))
      have c9 : Steps p.tables e below (s₁.setTop (entryFrame m #[.ref b, .int (Int32.ofNat o), .ref d, .int (Int32.ofNat q), .int (Int32.ofNat len)] 7)) (T7.setTop (mkF m 3 #[.val (.ref b), .val (.int (Int32.ofNat (o + i) + 1)), .val (.ref d), .val (.int (Int32.ofNat (q + i) + 1)), .val (.int (Int32.ofNat len)), .val (.int (Int32.ofNat i + 1)), .val (.int (cv A (o + i)))] [])) := c8.trans (by
        refine iincV X7.here hexec rfl 1 (hb hbytes d32) (by decide) rfl rfl ?_
        refine iincV X7.here hexec rfl 1 (hb hbytes d35) (by decide) rfl rfl ?_
        refine iincV X7.here hexec rfl 1 (hb hbytes d38) (by decide) rfl rfl ?_
        refine XS.goto X7.here hexec rfl (pc0 := 41) rfl (hb hbytes d41) (by decide) rfl ?_
        exact Steps.refl _)
      have c10 : Steps p.tables e below (s₁.setTop (entryFrame m #[.ref b, .int (Int32.ofNat o), .ref d, .int (Int32.ofNat q), .int (Int32.ofNat len)] 7)) (T7.setTop (mkF m 3 #[.val (.ref b), .val (.int (Int32.ofNat (o + (i + 1)))), .val (.ref d), .val (.int (Int32.ofNat (q + (i + 1)))), .val (.int (Int32.ofNat len)), .val (.int (Int32.ofNat (i + 1))), .val (.int (cv A (o + i)))] [])) := by
        have := c9
        rw [succ32, succ32, succ32] at this
        exact this
      exact ih (i + 1) (by omega) _ (Or.inr ⟨_, rfl, rfl⟩) T7 _ (by rw [copyLocs_step, ← List.append_assoc]; exact X7) (pl.trans p7) (fl.step (by omega) hlt (by simp)) c10
  obtain ⟨T9, B9, z9, X9, p9, f9, g9⟩ := loop len 0 (by omega) .unset (Or.inl rfl) s₁ B (by simpa [copyLocs] using X0) ⟨hB0.1, fun _ _ => rfl, rfl⟩ (Laid.zero _ _ _) c2
  have c11 : Steps p.tables e below (s₁.setTop (entryFrame m #[.ref b, .int (Int32.ofNat o), .ref d, .int (Int32.ofNat q), .int (Int32.ofNat len)] 7)) (T9.setTop (mkF m 46 #[.val (.ref b), .val (.int (Int32.ofNat (o + len))), .val (.ref d), .val (.int (Int32.ofNat (q + len))), .val (.int (Int32.ofNat len)), .val (.int (Int32.ofNat len)), z9] [.int (Int32.ofNat len)])) := g9.trans (by
    refine XS.iload X9.here hexec rfl (hb hbytes d3) rfl ?_
    refine XS.iload X9.here hexec rfl (hb hbytes d5) rfl ?_
    refine XS.icmpYes X9.here hexec rfl (pc0 := 7) rfl (hb hbytes d7) rfl (ii_ge_t (nlt32 (by omega) (Nat.le_refl _))) (by decide) rfl ?_
    refine XS.iload X9.here hexec rfl (hb hbytes d44) rfl ?_
    exact Steps.refl _)
  exact ⟨T9, some (.int (Int32.ofNat len)), _, _, _, X9, by simp, rfl, rfl, (fun h => by cases h), ⟨rfl, B9, p9.from hh0, f9⟩, fun fs hl => c11.trans (X9.ireturnOut hexec hret rfl (Or.inl rfl) (hb hbytes d46) hl)⟩
end Cmp5
namespace Cmp3
def yN : MethodName := ⟨"java/lang/StringUTF16", "compress", "([CII)[B"⟩
abbrev yB : ByteArray := jdk_52_method_16_code
theorem d0 : decode yB 0 = .ok (.iload_n 2, 1) := by decide +kernel
theorem d1 : decode yB 1 = .ok (.newarray .byte, 2) := by decide +kernel
theorem d3 : decode yB 3 = .ok (.astore_n 3, 1) := by decide +kernel
theorem d4 : decode yB 4 = .ok (.aload_n 0, 1) := by decide +kernel
theorem d5 : decode yB 5 = .ok (.iload_n 1, 1) := by decide +kernel
theorem d6 : decode yB 6 = .ok (.aload_n 3, 1) := by decide +kernel
theorem d7 : decode yB 7 = .ok (.iconst 0, 1) := by decide +kernel
theorem d8 : decode yB 8 = .ok (.iload_n 2, 1) := by decide +kernel
theorem d9 : decode yB 9 = .ok (.invokestatic 115, 3) := by decide +kernel
theorem d12 : decode yB 12 = .ok (.istore 4, 2) := by decide +kernel
theorem d14 : decode yB 14 = .ok (.iload 4, 2) := by decide +kernel
theorem d16 : decode yB 16 = .ok (.iload_n 2, 1) := by decide +kernel
theorem d17 : decode yB 17 = .ok (.if_icmp (.eq) 40, 3) := by decide +kernel
theorem d57 : decode yB 57 = .ok (.aload_n 3, 1) := by decide +kernel
theorem d58 : decode yB 58 = .ok (.areturn, 1) := by decide +kernel
def site : List Cond := [.arrayClass .byte, Cmp5.tab] ++ staticW U16 115 Cmp5.yN
def tab : Cond := tabOf yN yB 6 (some (.array .byte)) site
def P (b : Addr) (A : Cell) (o len : Nat) (args : Array Value) (s : State) : Prop := args = #[.ref b, .int (Int32.ofNat o), .int (Int32.ofNat len)] ∧ Ch b A s ∧ o + len ≤ A.slots.size ∧ len ≤ 536870912 ∧ ∀ i, i < len → ¬ 255 < cv A (o + i)
def E (b : Addr) (A : Cell) (o len : Nat) (r : Option Value) (s u : State) : Prop := NewArr .byte "[B" len (fun j => .int (lo8 (cv A (o + j)))) r s u ∧ u.heap.size = s.heap.size + 1
theorem law (l : Launch) (b : Addr) (A : Cell) (o len : Nat) : Law l yN 3 3 1 18 yB 6 (some (.array .byte)) site (P b A o len) (E b A o len) [] 1 len := by
  refine Law.of_walk (plainFor_of_name (by decide +kernel)) (by decide +kernel) (by decide +kernel) (by decide) (fun _ _ h => by rw [h.1]; rfl) (fun _ U U' hal hh h => ⟨h.1, h.2.1.mv hal hh, h.2.2⟩) (fun r U U' V V' h1 hal h2 h => ⟨NewArr.mv r U U' V V' h1 hal h2 h.1, by rw [h1, h2]; exact h.2⟩) ?_
  intro p e s m args below meth c s₁ X0 hexec hbytes hml hret hlk hnm hown hh0 W hP
  obtain ⟨rfl, hA, l1, l2, hp⟩ := hP
  have a31 := hA.1.2.2.2
  have c1 : Steps p.tables e below (s₁.setTop (entryFrame m #[.ref b, .int (Int32.ofNat o), .int (Int32.ofNat len)] 6)) (s₁.setTop (mkF m 0 #[.val (.ref b), .val (.int (Int32.ofNat o)), .val (.int (Int32.ofNat len)), .unset, .unset, .unset] [])) := entry rfl
  have c2 : Steps p.tables e below (s₁.setTop (entryFrame m #[.ref b, .int (Int32.ofNat o), .int (Int32.ofNat len)] 6)) (s₁.setTop (mkF m 1 #[.val (.ref b), .val (.int (Int32.ofNat o)), .val (.int (Int32.ofNat len)), .unset, .unset, .unset] [.int (Int32.ofNat len)])) := c1.trans (by
    refine XS.iloadN X0.here hexec rfl (hb hbytes d0) rfl ?_
    exact Steps.refl _)
  obtain ⟨T3, B3, X3, ba3, bs3, bv3, bh3, bf3, st3⟩ := X0.anew hexec (atype := .byte) (wk W (.arrayClass .byte)) rfl (by show len * 1 ≤ _; omega) (by omega) (g := (mkF m 1 #[.val (.ref b), .val (.int (Int32.ofNat o)), .val (.int (Int32.ofNat len)), .unset, .unset, .unset] [.int (Int32.ofNat len)])) rfl (hb hbytes d1) (rest := []) rfl (Nat.le_refl _) (by show 0 + len ≤ len; omega)
  rw [hh0] at ba3 st3
  have kp3 : XT.Kept s T3 := (XT.Kept.of_eq hh0).push bh3
  have hA3 := hA.keep X3.warmed.alike (kp3 _ _ hA.1.1)
  have hne : b ≠ s.heap.size := hA.1.ne
  have c4 : Steps p.tables e below (s₁.setTop (entryFrame m #[.ref b, .int (Int32.ofNat o), .int (Int32.ofNat len)] 6)) (T3.setTop (mkF m 3 #[.val (.ref b), .val (.int (Int32.ofNat o)), .val (.int (Int32.ofNat len)), .unset, .unset, .unset] [.ref s.heap.size])) := c2.trans (st3 _ (Steps.refl _))
  have c5 : Steps p.tables e below (s₁.setTop (entryFrame m #[.ref b, .int (Int32.ofNat o), .int (Int32.ofNat len)] 6)) (T3.setTop (mkF m 9 #[.val (.ref b), .val (.int (Int32.ofNat o)), .val (.int (Int32.ofNat len)), .val (.ref s.heap.size), .unset, .unset] [.int (Int32.ofNat len), .int 0, .ref s.heap.size, .int (Int32.ofNat o), .ref b])) := c4.trans (by
    refine XS.astoreN X3.here hexec rfl (hb hbytes d3) rfl rfl rfl ?_
    refine XS.aloadN X3.here hexec rfl (hb hbytes d4) rfl rfl ?_
    refine XS.iloadN X3.here hexec rfl (hb hbytes d5) rfl ?_
    refine XS.aloadN X3.here hexec rfl (hb hbytes d6) rfl rfl ?_
    refine iconstV X3.here hexec rfl 0 (hb hbytes d7) (by decide) ?_
    refine XS.iloadN X3.here hexec rfl (hb hbytes d8) rfl ?_
    exact Steps.refl _)
  obtain ⟨v6, T6, X6, E6, g6⟩ := X3.callS hexec (Cmp5.law l b A s.heap.size B3 o 0 len) hown (wks W (staticW U16 115 Cmp5.yN)) (wk W Cmp5.tab) (W := 0) (Nat.le_of_ble_eq_true rfl) (Nat.le_of_ble_eq_true rfl) (Nat.le_refl _) (by show 0 + len + 0 ≤ len; omega) (g := (mkF m 9 #[.val (.ref b), .val (.int (Int32.ofNat o)), .val (.int (Int32.ofNat len)), .val (.ref s.heap.size), .unset, .unset] [.int (Int32.ofNat len), .int (Int32.ofNat 0), .ref s.heap.size, .int (Int32.ofNat o), .ref b])) rfl (by rw [hml]; rfl) c5 (argsL := [.ref b, .int (Int32.ofNat o), .ref s.heap.size, .int (Int32.ofNat 0), .int (Int32.ofNat len)]) (rest := []) rfl rfl (by show 2 * 0 + 0 ≤ _; decide) (hb hbytes d9) (⟨rfl, hA3, ba3, hne, l1, by rw [bs3]; simp, hp⟩)
  obtain ⟨rfl, B6, p6, f6⟩ := E6
  have c7 : Steps p.tables e below (s₁.setTop (entryFrame m #[.ref b, .int (Int32.ofNat o), .int (Int32.ofNat len)] 6)) (T6.setTop (mkF m 12 #[.val (.ref b), .val (.int (Int32.ofNat o)), .val (.int (Int32.ofNat len)), .val (.ref s.heap.size), .unset, .unset] [.int (Int32.ofNat len)])) := g6
  have c8 : Steps p.tables e below (s₁.setTop (entryFrame m #[.ref b, .int (Int32.ofNat o), .int (Int32.ofNat len)] 6)) (T6.setTop (mkF m 58 #[.val (.ref b), .val (.int (Int32.ofNat o)), .val (.int (Int32.ofNat len)), .val (.ref s.heap.size), .val (.int (Int32.ofNat len)), .unset] [.ref s.heap.size])) := c7.trans (by
    refine XS.istore X6.here hexec rfl (hb hbytes d12) rfl rfl ?_
    refine XS.iload X6.here hexec rfl (hb hbytes d14) rfl ?_
    refine XS.iloadN X6.here hexec rfl (hb hbytes d16) rfl ?_
    refine XS.icmpYes X6.here hexec rfl (pc0 := 17) rfl (hb hbytes d17) rfl (ii_eq_t rfl) (by decide) rfl ?_
    refine XS.aloadN X6.here hexec rfl (hb hbytes d57) rfl rfl ?_
    exact Steps.refl _)
  have X8 := X6.wide (L' := []) (cells' := 1) (slots' := len) (fun x hx hlt => by
    simp only [List.nil_append, copyLocs, List.mem_map, List.mem_range] at hx
    obtain ⟨i, -, rfl⟩ := hx
    exact absurd hlt (Nat.lt_irrefl _)) (Nat.le_refl _) (by omega)
  exact ⟨T6, some (.ref s.heap.size), _, _, _, X8, rfl, rfl, rfl, (fun h => by cases h), ⟨⟨rfl, B6, ba3.like (X3.warmed.alike.symm.trans X6.warmed.alike) p6.1 f6.1 f6.2.1 f6.2.2.1, f6.2.1.trans bv3, by rw [X6.warmed.alike.findClass, f6.1]; exact bf3, by rw [f6.2.2.1, bs3]; simp, fun j hj => by rw [f6.2.2.2 j, if_pos (by omega)]; rfl, kp3.put p6 (Nat.le_refl _)⟩, by rw [p6.2.2, bh3, hh0]; simp⟩, fun fs hl => c8.trans (X8.areturnOut hexec rfl hret rfl (hb hbytes d58) hl)⟩
end Cmp3
namespace CodL
def yN : MethodName := ⟨"java/lang/StringUTF16", "coderFromArrayLen", "([BI)B"⟩
abbrev yB : ByteArray := jdk_52_method_15_code
theorem d0 : decode yB 0 = .ok (.iload_n 1, 1) := by decide +kernel
theorem d1 : decode yB 1 = .ok (.aload_n 0, 1) := by decide +kernel
theorem d2 : decode yB 2 = .ok (.arraylength, 1) := by decide +kernel
theorem d3 : decode yB 3 = .ok (.isub, 1) := by decide +kernel
theorem d4 : decode yB 4 = .ok (.bipush 31, 2) := by decide +kernel
theorem d6 : decode yB 6 = .ok (.iushr, 1) := by decide +kernel
theorem d7 : decode yB 7 = .ok (.i2b, 1) := by decide +kernel
theorem d8 : decode yB 8 = .ok (.ireturn, 1) := by decide +kernel
def site : List Cond := []
def tab : Cond := tabOf yN yB 2 (some .byte) site
def P (d : Addr) (B : Cell) (args : Array Value) (s : State) : Prop := args = #[.ref d, .int (Int32.ofNat B.slots.size)] ∧ Arr .byte d B s
def E (r : Option Value) (s u : State) : Prop := XT.PureE (some (.int 0)) r s u
theorem law (l : Launch) (d : Addr) (B : Cell) : Law l yN 2 2 0 0 yB 2 (some .byte) site (P d B) E [] 0 0 := by
  refine Law.of_walk (plainFor_of_name (by decide +kernel)) (by decide +kernel) (by decide +kernel) (by decide) (fun _ _ h => by rw [h.1]; rfl) (fun _ U U' hal hh h => ⟨h.1, h.2.mv hal hh⟩) (fun r U U' V V' h1 hal h2 h => XT.PureE.mv r U U' V V' h1 hal h2 h) ?_
  intro p e s m args below meth c s₁ X0 hexec hbytes hml hret hlk hnm hown hh0 W hP
  obtain ⟨rfl, hB⟩ := hP
  have hB0 := hB.mv X0.warmed.alike hh0
  have c1 : Steps p.tables e below (s₁.setTop (entryFrame m #[.ref d, .int (Int32.ofNat B.slots.size)] 2)) (s₁.setTop (mkF m 0 #[.val (.ref d), .val (.int (Int32.ofNat B.slots.size))] [])) := entry rfl
  have c2 : Steps p.tables e below (s₁.setTop (entryFrame m #[.ref d, .int (Int32.ofNat B.slots.size)] 2)) (s₁.setTop (mkF m 2 #[.val (.ref d), .val (.int (Int32.ofNat B.slots.size))] [.ref d, .int (Int32.ofNat B.slots.size)])) := c1.trans (by
    refine XS.iloadN X0.here hexec rfl (hb hbytes d0) rfl ?_
    refine XS.aloadN X0.here hexec rfl (hb hbytes d1) rfl rfl ?_
    exact Steps.refl _)
  have c3 : Steps p.tables e below (s₁.setTop (entryFrame m #[.ref d, .int (Int32.ofNat B.slots.size)] 2)) (s₁.setTop (mkF m 8 #[.val (.ref d), .val (.int (Int32.ofNat B.slots.size))] [.int (lo8 (ushr (Int32.ofNat B.slots.size - Int32.ofNat B.slots.size) 31))])) := c2.trans (by
    refine X0.alen hexec hB0 rfl rfl (hb hbytes d2) ?_
    refine XS.isub X0.here hexec rfl (hb hbytes d3) rfl ?_
    refine bipushV X0.here hexec rfl 31 (hb hbytes d4) (by decide) ?_
    refine iushr X0.here hexec rfl (hb hbytes d6) rfl ?_
    refine i2b X0.here hexec rfl (hb hbytes d7) rfl ?_
    exact Steps.refl _)
  have e0 : lo8 (ushr (Int32.ofNat B.slots.size - Int32.ofNat B.slots.size) 31) = 0 := by rw [Int32.sub_self]; decide
  rw [e0] at c3
  exact ⟨s₁, some (.int 0), _, _, _, X0, rfl, rfl, rfl, (fun h => by cases h), ⟨rfl, hh0⟩, fun fs hl => c3.trans (X0.ireturnOut hexec hret rfl (Or.inr (Or.inr (Or.inl rfl))) (hb hbytes d8) hl)⟩
end CodL
def Got (a : Addr) (D : Cell) (fV fC : Field) (A : Cell) (o len : Nat) (r : Option Value) (s u : State) : Prop := r = none ∧ ∃ D' V : Cell, Blank "java/lang/String" a D' u ∧ Same D D' [fV.slot, fC.slot] ∧ D'.slots[fV.slot]? = some (.ref s.heap.size) ∧ D'.slots[fC.slot]? = some (.int 0) ∧ Arr .byte s.heap.size V u ∧ V.vm = .none ∧ u.vm.findClass "[B" = some V.cls ∧ V.slots.size = len ∧ (∀ j, j < len → V.slots[j]? = some (.int (lo8 (cv A (o + j))))) ∧ (∀ (y : Addr) (c : Cell), y ≠ a → s.heap[y]? = some c → u.heap[y]? = some c) ∧ u.heap.size = s.heap.size + 1
theorem Got.mv {a : Addr} {D A : Cell} {fV fC : Field} {o len : Nat} : ∀ r (U U' V V' : State), U'.heap = U.heap → V.vm.Alike V'.vm → V'.heap = V.heap → Got a D fV fC A o len r U V → Got a D fV fC A o len r U' V' :=
  fun r U U' V V' h1 hal h2 ⟨e0, D', X, a1, a2, a3, a4, a5, a6, a7, a8, a9, a10, a11⟩ => ⟨e0, D', X, a1.mv hal h2, a2, by rw [h1]; exact a3, a4, by rw [h1]; exact a5.mv hal h2, a6, by rw [hal.findClass]; exact a7, a8, a9, by rw [h1, h2]; exact a10, by rw [h1, h2]; exact a11⟩
namespace New4
def yN : MethodName := ⟨"java/lang/String", "<init>", "([CIILjava/lang/Void;)V"⟩
abbrev yB : ByteArray := jdk_42_method_149_code
theorem d0 : decode yB 0 = .ok (.aload_n 0, 1) := by decide +kernel
theorem d1 : decode yB 1 = .ok (.invokespecial 1, 3) := by decide +kernel
theorem d4 : decode yB 4 = .ok (.iload_n 3, 1) := by decide +kernel
theorem d5 : decode yB 5 = .ok (.ifCond (.ne) 22, 3) := by decide +kernel
theorem d27 : decode yB 27 = .ok (.getstatic 38, 3) := by decide +kernel
theorem d30 : decode yB 30 = .ok (.ifCond (.eq) 28, 3) := by decide +kernel
theorem d33 : decode yB 33 = .ok (.aload_n 1, 1) := by decide +kernel
theorem d34 : decode yB 34 = .ok (.iload_n 2, 1) := by decide +kernel
theorem d35 : decode yB 35 = .ok (.iload_n 3, 1) := by decide +kernel
theorem d36 : decode yB 36 = .ok (.invokestatic 177, 3) := by decide +kernel
theorem d39 : decode yB 39 = .ok (.astore 5, 2) := by decide +kernel
theorem d41 : decode yB 41 = .ok (.aload_n 0, 1) := by decide +kernel
theorem d42 : decode yB 42 = .ok (.aload 5, 2) := by decide +kernel
theorem d44 : decode yB 44 = .ok (.iload_n 3, 1) := by decide +kernel
theorem d45 : decode yB 45 = .ok (.invokestatic 47, 3) := by decide +kernel
theorem d48 : decode yB 48 = .ok (.putfield 15, 3) := by decide +kernel
theorem d51 : decode yB 51 = .ok (.aload_n 0, 1) := by decide +kernel
theorem d52 : decode yB 52 = .ok (.aload 5, 2) := by decide +kernel
theorem d54 : decode yB 54 = .ok (.putfield 9, 3) := by decide +kernel
theorem d57 : decode yB 57 = .ok (.return_, 1) := by decide +kernel
def site : List Cond := [.fieldLink "java/lang/String" 38 "java/lang/String" "COMPACT_STRINGS" "Z", Cmp3.tab, CodL.tab, .laysFinal "java/lang/String" "java/lang/String" "value" "[B", .fieldLink "java/lang/String" 9 "java/lang/String" "value" "[B", .laysFinal "java/lang/String" "java/lang/String" "coder" "B", .fieldLink "java/lang/String" 15 "java/lang/String" "coder" "B"] ++ objW "java/lang/String" 1 ++ staticW "java/lang/String" 177 Cmp3.yN ++ staticW "java/lang/String" 47 CodL.yN
def tab : Cond := tabOf yN yB 6 none site
def P (a : Addr) (D : Cell) (fV fC : Field) (b : Addr) (A : Cell) (z : Int32) (o len : Nat) (args : Array Value) (s : State) : Prop := args = #[.ref a, .ref b, .int (Int32.ofNat o), .int (Int32.ofNat len), .null] ∧ Blank "java/lang/String" a D s ∧ Found "java/lang/String" "value" "[B" fV s ∧ Found "java/lang/String" "coder" "B" fC s ∧ Ch b A s ∧ StaticIs s "java/lang/String" "COMPACT_STRINGS" "Z" (.int z) ∧ ¬ z = 0 ∧ 0 < len ∧ o + len ≤ A.slots.size ∧ len ≤ 536870912 ∧ ∀ i, i < len → ¬ 255 < cv A (o + i)
def E (a : Addr) (D : Cell) (fV fC : Field) (A : Cell) (o len : Nat) (r : Option Value) (s u : State) : Prop := Got a D fV fC A o len r s u
theorem law (l : Launch) (a : Addr) (D : Cell) (fV fC : Field) (b : Addr) (A : Cell) (z : Int32) (o len : Nat) : Law l yN 5 4 2 35 yB 6 none site (P a D fV fC b A z o len) (E a D fV fC A o len) [⟨a, fC.slot⟩, ⟨a, fV.slot⟩] 1 len := by
  refine Law.of_walk (plainFor_of_name (by decide +kernel)) (by decide +kernel) (by decide +kernel) (by decide) (fun _ _ h => by rw [h.1]; rfl) (fun _ U U' hal hh h => ⟨h.1, h.2.1.mv hal hh, h.2.2.1.al hal, h.2.2.2.1.al hal, h.2.2.2.2.1.mv hal hh, h.2.2.2.2.2.1.there hal hh, h.2.2.2.2.2.2⟩) (fun r U U' V V' h1 hal h2 h => Got.mv r U U' V V' h1 hal h2 h) ?_
  intro p e s m args below meth c s₁ X0 hexec hbytes hml hret hlk hnm hown hh0 W hP
  obtain ⟨rfl, hB, f1, f2, hA, s1, hz, l0, l1, l2, hp⟩ := hP
  have a31 := hA.1.2.2.2
  have c1 : Steps p.tables e below (s₁.setTop (entryFrame m #[.ref a, .ref b, .int (Int32.ofNat o), .int (Int32.ofNat len), .null] 6)) (s₁.setTop (mkF m 0 #[.val (.ref a), .val (.ref b), .val (.int (Int32.ofNat o)), .val (.int (Int32.ofNat len)), .val .null, .unset] [])) := entry rfl
  have c2 : Steps p.tables e below (s₁.setTop (entryFrame m #[.ref a, .ref b, .int (Int32.ofNat o), .int (Int32.ofNat len), .null] 6)) (s₁.setTop (mkF m 1 #[.val (.ref a), .val (.ref b), .val (.int (Int32.ofNat o)), .val (.int (Int32.ofNat len)), .val .null, .unset] [.ref a])) := c1.trans (by
    refine XS.aloadN X0.here hexec rfl (hb hbytes d0) rfl rfl ?_
    exact Steps.refl _)
  obtain ⟨T3, X3, q3, st3⟩ := X0.oinit hexec hown (wks W (objW "java/lang/String" 1)) (g := (mkF m 1 #[.val (.ref a), .val (.ref b), .val (.int (Int32.ofNat o)), .val (.int (Int32.ofNat len)), .val .null, .unset] [.ref a])) rfl (by rw [hml]; rfl) (rest := []) rfl (hb hbytes d1) (W := 0) (by show 2 * 0 + 0 ≤ _; decide) (Nat.le_of_ble_eq_true rfl) (Nat.le_of_ble_eq_true rfl)
  have hh3 := q3.trans hh0
  have c4 : Steps p.tables e below (s₁.setTop (entryFrame m #[.ref a, .ref b, .int (Int32.ofNat o), .int (Int32.ofNat len), .null] 6)) (T3.setTop (mkF m 27 #[.val (.ref a), .val (.ref b), .val (.int (Int32.ofNat o)), .val (.int (Int32.ofNat len)), .val .null, .unset] [])) := (c2.trans (st3 _ (Steps.refl _))).trans (by
    refine XS.iloadN X3.here hexec rfl (hb hbytes d4) rfl ?_
    refine XS.ifYes X3.here hexec rfl (pc0 := 5) rfl (hb hbytes d5) rfl (i0_ne_t (nz32 (by omega) l0)) (by decide) rfl ?_
    exact Steps.refl _)
  obtain ⟨T5, X5, q5, st5⟩ := X3.sget hexec hown (wk W (.fieldLink "java/lang/String" 38 "java/lang/String" "COMPACT_STRINGS" "Z")) s1 (fun _ _ h => by rw [hh3]; exact h) (g := (mkF m 27 #[.val (.ref a), .val (.ref b), .val (.int (Int32.ofNat o)), .val (.int (Int32.ofNat len)), .val .null, .unset] [])) rfl (hb hbytes d27)
  have hh5 := q5.trans hh3
  have c6 : Steps p.tables e below (s₁.setTop (entryFrame m #[.ref a, .ref b, .int (Int32.ofNat o), .int (Int32.ofNat len), .null] 6)) (T5.setTop (mkF m 30 #[.val (.ref a), .val (.ref b), .val (.int (Int32.ofNat o)), .val (.int (Int32.ofNat len)), .val .null, .unset] [.int z])) := c4.trans (st5 _ (Steps.refl _))
  have c7 : Steps p.tables e below (s₁.setTop (entryFrame m #[.ref a, .ref b, .int (Int32.ofNat o), .int (Int32.ofNat len), .null] 6)) (T5.setTop (mkF m 36 #[.val (.ref a), .val (.ref b), .val (.int (Int32.ofNat o)), .val (.int (Int32.ofNat len)), .val .null, .unset] [.int (Int32.ofNat len), .int (Int32.ofNat o), .ref b])) := c6.trans (by
    refine XS.ifNo X5.here hexec rfl (hb hbytes d30) rfl (i0_eq_f hz) ?_
    refine XS.aloadN X5.here hexec rfl (hb hbytes d33) rfl rfl ?_
    refine XS.iloadN X5.here hexec rfl (hb hbytes d34) rfl ?_
    refine XS.iloadN X5.here hexec rfl (hb hbytes d35) rfl ?_
    exact Steps.refl _)
  obtain ⟨v8, T8, X8, E8, g8⟩ := X5.callS hexec (Cmp3.law l b A o len) hown (wks W (staticW "java/lang/String" 177 Cmp3.yN)) (wk W Cmp3.tab) (W := 0) (Nat.le_of_ble_eq_true rfl) (Nat.le_of_ble_eq_true rfl) (Nat.le_refl _) (by show 0 + len ≤ len; omega) (g := (mkF m 36 #[.val (.ref a), .val (.ref b), .val (.int (Int32.ofNat o)), .val (.int (Int32.ofNat len)), .val .null, .unset] [.int (Int32.ofNat len), .int (Int32.ofNat o), .ref b])) rfl (by rw [hml]; rfl) c7 (argsL := [.ref b, .int (Int32.ofNat o), .int (Int32.ofNat len)]) (rest := []) rfl rfl (by show 2 * 0 + 0 ≤ _; decide) (hb hbytes d36) (⟨rfl, hA.mv X5.warmed.alike hh5, l1, l2, hp⟩)
  obtain ⟨e8, z8⟩ := E8
  obtain ⟨rfl, N, n1, n2, n3, n4, n5, n6⟩ := NewArr.mv _ T5 s _ _ hh5.symm (Vm.Alike.refl _) rfl e8
  rw [hh5] at z8
  have hB1 := hB.keep X8.warmed.alike (n6 _ _ hB.1)
  have hne : s.heap.size ≠ a := (Nat.ne_of_lt (Array.getElem?_eq_some_iff.mp hB.1).1).symm
  have c9 : Steps p.tables e below (s₁.setTop (entryFrame m #[.ref a, .ref b, .int (Int32.ofNat o), .int (Int32.ofNat len), .null] 6)) (T8.setTop (mkF m 39 #[.val (.ref a), .val (.ref b), .val (.int (Int32.ofNat o)), .val (.int (Int32.ofNat len)), .val .null, .unset] [.ref s.heap.size])) := g8
  have c10 : Steps p.tables e below (s₁.setTop (entryFrame m #[.ref a, .ref b, .int (Int32.ofNat o), .int (Int32.ofNat len), .null] 6)) (T8.setTop (mkF m 45 #[.val (.ref a), .val (.ref b), .val (.int (Int32.ofNat o)), .val (.int (Int32.ofNat len)), .val .null, .val (.ref s.heap.size)] [.int (Int32.ofNat N.slots.size), .ref s.heap.size, .ref a])) := by
    have hc : Steps p.tables e below (s₁.setTop (entryFrame m #[.ref a, .ref b, .int (Int32.ofNat o), .int (Int32.ofNat len), .null] 6)) (T8.setTop (mkF m 45 #[.val (.ref a), .val (.ref b), .val (.int (Int32.ofNat o)), .val (.int (Int32.ofNat len)), .val .null, .val (.ref s.heap.size)] [.int (Int32.ofNat len), .ref s.heap.size, .ref a])) := c9.trans (by
      refine XS.astore X8.here hexec rfl (hb hbytes d39) rfl rfl rfl ?_
      refine XS.aloadN X8.here hexec rfl (hb hbytes d41) rfl rfl ?_
      refine XS.aload X8.here hexec rfl (hb hbytes d42) rfl rfl ?_
      refine XS.iloadN X8.here hexec rfl (hb hbytes d44) rfl ?_
      exact Steps.refl _)
    rw [n4]; exact hc
  obtain ⟨v11, T11, X11, E11, g11⟩ := X8.callS hexec (CodL.law l s.heap.size N) hown (wks W (staticW "java/lang/String" 47 CodL.yN)) (wk W CodL.tab) (W := 1) (Nat.le_of_ble_eq_true rfl) (Nat.le_of_ble_eq_true rfl) (Nat.le_refl _) (by show 0 + len + 0 ≤ len; omega) (g := (mkF m 45 #[.val (.ref a), .val (.ref b), .val (.int (Int32.ofNat o)), .val (.int (Int32.ofNat len)), .val .null, .val (.ref s.heap.size)] [.int (Int32.ofNat N.slots.size), .ref s.heap.size, .ref a])) rfl (by rw [hml]; rfl) c10 (argsL := [.ref s.heap.size, .int (Int32.ofNat N.slots.size)]) (rest := [.ref a]) rfl rfl (by show 2 * 0 + (1 + 0) ≤ _; decide) (hb hbytes d45) (⟨rfl, n1⟩)
  obtain ⟨rfl, q11⟩ := E11
  have hB11 := hB1.mv (X8.warmed.alike.symm.trans X11.warmed.alike) q11
  have c12 : Steps p.tables e below (s₁.setTop (entryFrame m #[.ref a, .ref b, .int (Int32.ofNat o), .int (Int32.ofNat len), .null] 6)) (T11.setTop (mkF m 48 #[.val (.ref a), .val (.ref b), .val (.int (Int32.ofNat o)), .val (.int (Int32.ofNat len)), .val .null, .val (.ref s.heap.size)] [.int 0, .ref a])) := g11
  obtain ⟨T13, X13, p13, bl13, sl13, st13⟩ := X11.finit hexec hown (wk W (.fieldLink "java/lang/String" 15 "java/lang/String" "coder" "B")) (Or.inr ⟨_, (wk W (.laysFinal "java/lang/String" "java/lang/String" "coder" "B"))⟩) (Or.inl ⟨rfl, hnm⟩) f2 (Or.inl rfl) hB11 (t := .byte) (by decide +kernel) rfl (g := (mkF m 48 #[.val (.ref a), .val (.ref b), .val (.int (Int32.ofNat o)), .val (.int (Int32.ofNat len)), .val .null, .val (.ref s.heap.size)] [.int 0, .ref a])) rfl (rest := []) rfl (hb hbytes d48)
  have c14 : Steps p.tables e below (s₁.setTop (entryFrame m #[.ref a, .ref b, .int (Int32.ofNat o), .int (Int32.ofNat len), .null] 6)) (T13.setTop (mkF m 54 #[.val (.ref a), .val (.ref b), .val (.int (Int32.ofNat o)), .val (.int (Int32.ofNat len)), .val .null, .val (.ref s.heap.size)] [.ref s.heap.size, .ref a])) := (c12.trans (st13 _ (Steps.refl _))).trans (by
    refine XS.aloadN X13.here hexec rfl (hb hbytes d51) rfl rfl ?_
    refine XS.aload X13.here hexec rfl (hb hbytes d52) rfl rfl ?_
    exact Steps.refl _)
  obtain ⟨T15, X15, p15, bl15, sl15, st15⟩ := X13.finit hexec hown (wk W (.fieldLink "java/lang/String" 9 "java/lang/String" "value" "[B")) (Or.inr ⟨_, (wk W (.laysFinal "java/lang/String" "java/lang/String" "value" "[B"))⟩) (Or.inl ⟨rfl, hnm⟩) f1 (Or.inl rfl) bl13 (t := (.array .byte)) (by decide +kernel) rfl (g := (mkF m 54 #[.val (.ref a), .val (.ref b), .val (.int (Int32.ofNat o)), .val (.int (Int32.ofNat len)), .val .null, .val (.ref s.heap.size)] [.ref s.heap.size, .ref a])) rfl (rest := []) rfl (hb hbytes d54)
  have c16 : Steps p.tables e below (s₁.setTop (entryFrame m #[.ref a, .ref b, .int (Int32.ofNat o), .int (Int32.ofNat len), .null] 6)) (T15.setTop (mkF m 57 #[.val (.ref a), .val (.ref b), .val (.int (Int32.ofNat o)), .val (.int (Int32.ofNat len)), .val .null, .val (.ref s.heap.size)] [])) := c14.trans (st15 _ (Steps.refl _))
  have ap := apart (Or.inr ⟨_, (wk W (.laysFinal "java/lang/String" "java/lang/String" "value" "[B"))⟩) (Or.inr ⟨_, (wk W (.laysFinal "java/lang/String" "java/lang/String" "coder" "B"))⟩) f1 f2 (t₁ := .array .byte) (t₂ := .byte) (by decide +kernel) (by decide +kernel) (by decide)
  have al := X8.warmed.alike.symm.trans X15.warmed.alike
  have n7 : T11.heap[s.heap.size]? = some N := by rw [q11]; exact n1.1
  exact ⟨T15, none, _, _, _, X15, by simp, rfl, by omega, (fun _ => rfl), ⟨rfl, _, N, bl15, ((Same.refl D _).set _ (by simp)).set _ (by simp), sl15, (Cell.slots_setSlot_ne _ ap).trans sl13, n1.keep al (p15.other hne (p13.other hne n7)), n2, by rw [al.findClass]; exact n3, n4, n5, fun y c h1 h2 => p15.other h1 (p13.other h1 (by rw [q11]; exact n6 y c h2)), by rw [p15.2.2, p13.2.2, q11]; exact z8⟩, fun fs hl => c16.trans (X15.returnOut hexec hret (hb hbytes d57) hl)⟩
end New4
namespace New1
def yN : MethodName := ⟨"java/lang/String", "<init>", "([C)V"⟩
abbrev yB : ByteArray := jdk_42_method_3_code
theorem d0 : decode yB 0 = .ok (.aload_n 0, 1) := by decide +kernel
theorem d1 : decode yB 1 = .ok (.aload_n 1, 1) := by decide +kernel
theorem d2 : decode yB 2 = .ok (.iconst 0, 1) := by decide +kernel
theorem d3 : decode yB 3 = .ok (.aload_n 1, 1) := by decide +kernel
theorem d4 : decode yB 4 = .ok (.arraylength, 1) := by decide +kernel
theorem d5 : decode yB 5 = .ok (.aconst_null, 1) := by decide +kernel
theorem d6 : decode yB 6 = .ok (.invokespecial 27, 3) := by decide +kernel
theorem d9 : decode yB 9 = .ok (.return_, 1) := by decide +kernel
def site : List Cond := [New4.tab] ++ initW "java/lang/String" 27 New4.yN
def tab : Cond := tabOf yN yB 2 none site
def P (a : Addr) (D : Cell) (fV fC : Field) (b : Addr) (A : Cell) (z : Int32) (args : Array Value) (s : State) : Prop := args = #[.ref a, .ref b] ∧ Blank "java/lang/String" a D s ∧ Found "java/lang/String" "value" "[B" fV s ∧ Found "java/lang/String" "coder" "B" fC s ∧ Ch b A s ∧ StaticIs s "java/lang/String" "COMPACT_STRINGS" "Z" (.int z) ∧ ¬ z = 0 ∧ 0 < A.slots.size ∧ A.slots.size ≤ 536870912 ∧ ∀ i, i < A.slots.size → ¬ 255 < cv A i
def E (a : Addr) (D : Cell) (fV fC : Field) (A : Cell) (r : Option Value) (s u : State) : Prop := Got a D fV fC A 0 A.slots.size r s u
theorem law (l : Launch) (a : Addr) (D : Cell) (fV fC : Field) (b : Addr) (A : Cell) (z : Int32) : Law l yN 2 1 3 52 yB 2 none site (P a D fV fC b A z) (E a D fV fC A) [⟨a, fC.slot⟩, ⟨a, fV.slot⟩] 1 A.slots.size := by
  refine Law.of_walk (plainFor_of_name (by decide +kernel)) (by decide +kernel) (by decide +kernel) (by decide) (fun _ _ h => by rw [h.1]; rfl) (fun _ U U' hal hh h => ⟨h.1, h.2.1.mv hal hh, h.2.2.1.al hal, h.2.2.2.1.al hal, h.2.2.2.2.1.mv hal hh, h.2.2.2.2.2.1.there hal hh, h.2.2.2.2.2.2⟩) (fun r U U' V V' h1 hal h2 h => Got.mv r U U' V V' h1 hal h2 h) ?_
  intro p e s m args below meth c s₁ X0 hexec hbytes hml hret hlk hnm hown hh0 W hP
  obtain ⟨rfl, hB, f1, f2, hA, s1, hz, l0, l2, hp⟩ := hP
  have c1 : Steps p.tables e below (s₁.setTop (entryFrame m #[.ref a, .ref b] 2)) (s₁.setTop (mkF m 0 #[.val (.ref a), .val (.ref b)] [])) := entry rfl
  have c2 : Steps p.tables e below (s₁.setTop (entryFrame m #[.ref a, .ref b] 2)) (s₁.setTop (mkF m 6 #[.val (.ref a), .val (.ref b)] [.null, .int (Int32.ofNat A.slots.size), .int 0, .ref b, .ref a])) := c1.trans (by
    refine XS.aloadN X0.here hexec rfl (hb hbytes d0) rfl rfl ?_
    refine XS.aloadN X0.here hexec rfl (hb hbytes d1) rfl rfl ?_
    refine iconstV X0.here hexec rfl 0 (hb hbytes d2) (by decide) ?_
    refine XS.aloadN X0.here hexec rfl (hb hbytes d3) rfl rfl ?_
    refine X0.alen hexec (hA.1.mv X0.warmed.alike hh0) rfl rfl (hb hbytes d4) ?_
    refine XS.aconstNull X0.here hexec rfl (hb hbytes d5) ?_
    exact Steps.refl _)
  obtain ⟨v3, T3, X3, E3, g3⟩ := X0.callN hexec (New4.law l a D fV fC b A z 0 A.slots.size) rfl hown (wks W (initW "java/lang/String" 27 New4.yN)) (W New4.tab (by simp only [site, List.mem_cons, List.mem_append, true_or, or_true])) (W := 0) (Nat.le_of_ble_eq_true rfl) (Nat.le_of_ble_eq_true rfl) (Nat.le_refl _) (by show 0 + A.slots.size ≤ A.slots.size; omega) (g := (mkF m 6 #[.val (.ref a), .val (.ref b)] [.null, .int (Int32.ofNat A.slots.size), .int (Int32.ofNat 0), .ref b, .ref a])) rfl (by rw [hml]; rfl) c2 (argsL := [.ref b, .int (Int32.ofNat 0), .int (Int32.ofNat A.slots.size), .null]) (rest := []) rfl rfl (by show 2 * 0 + 0 ≤ _; decide) (hb hbytes d6) (⟨rfl, hB.mv X0.warmed.alike hh0, f1.al X0.warmed.alike, f2.al X0.warmed.alike, hA.mv X0.warmed.alike hh0, s1.there X0.warmed.alike hh0, hz, l0, by omega, l2, fun i hi => by rw [Nat.zero_add]; exact hp i hi⟩)
  have e0 := Got.mv _ s₁ s _ _ hh0.symm (Vm.Alike.refl _) rfl E3
  obtain rfl := e0.1
  have c4 : Steps p.tables e below (s₁.setTop (entryFrame m #[.ref a, .ref b] 2)) (T3.setTop (mkF m 9 #[.val (.ref a), .val (.ref b)] [])) := g3
  exact ⟨T3, none, _, _, _, X3, by simp, rfl, by omega, (fun _ => rfl), e0, fun fs hl => c4.trans (X3.returnOut hexec hret (hb hbytes d9) hl)⟩
theorem pays {l : Launch} {R : Room} {p : Program} {e : Env} {below : List Frame} {s : State} {sargs : Array Value} {len W : Nat} (a : Addr) (D : Cell) (fV fC : Field) (b : Addr) (A : Cell) (z : Int32) (htab : tab.before sargs s = true) (hfr : 4 ≤ R.frames) (hlo : W + 65 ≤ R.locals) :
    Back l R p e below s sargs yN len W (fun A₁ a₁ => A₁.cells + 1 ≤ R.cells ∧ A₁.slots + A.slots.size ≤ R.slots ∧ P a D fV fC b A z a₁ A₁.U) (fun A₁ _ v₁ B₁ => E a D fV fC A v₁ A₁.U B₁.U ∧ B₁.locs = A₁.locs ++ [⟨a, fC.slot⟩, ⟨a, fV.slot⟩] ∧ B₁.cells = A₁.cells + 1 ∧ B₁.slots = A₁.slots + A.slots.size) :=
  (law l a D fV fC b A z).pays htab hfr (by omega)
end New1
theorem lo8_mask {x : Int32} (h0 : ¬ x < 0) (h1 : ¬ 255 < x) : lo8 x &&& 255 = x := by
  have t : ∀ k : Fin 256, lo8 (Int32.ofNat k.val) &&& 255 = Int32.ofNat k.val := by decide +kernel
  rw [Int32.lt_iff_toInt_lt] at h0 h1
  have e0 : (0 : Int32).toInt = 0 := rfl
  have e1 : (255 : Int32).toInt = 255 := rfl
  obtain ⟨k, hk⟩ : ∃ k : Nat, x.toInt = k := ⟨x.toInt.toNat, by omega⟩
  have hx : x = Int32.ofNat k := Int32.toInt_inj.mp (by rw [hk, Int32.toInt_ofNat_small (by omega)])
  rw [hx]
  exact t ⟨k, by omega⟩
end StrChars
namespace StrChars.Road
open Jvm Sem ClassFile Op Lib Jvm.Stand Jvm.Free Jvm.Free.XT
open Jvm.Lib.Cold (StaticIs)
abbrev ST : String := "java/lang/String"
abbrev words : List Jvm.Cond := [.code New1.yN New1.yB 2 none, .initialized ST, .methodLink ST 27 New4.yN, .instanceMethod New4.yN,
  .code New4.yN New4.yB 6 none, .fieldLink ST 38 ST "COMPACT_STRINGS" "Z", .laysFinal ST ST "value" "[B", .fieldLink ST 9 ST "value" "[B", .laysFinal ST ST "coder" "B", .fieldLink ST 15 ST "coder" "B",
  .methodLink ST 1 Lib.objectInit, .instanceMethod Lib.objectInit, .code Lib.objectInit ⟨#[0xb1]⟩ 1 none, .methodLink ST 177 Cmp3.yN, .static Cmp3.yN, .methodLink ST 47 CodL.yN, .static CodL.yN,
  .code Cmp3.yN Cmp3.yB 6 (some (.array .byte)), .initialized U16, .arrayClass .byte, .methodLink U16 115 Cmp5.yN, .static Cmp5.yN, .code Cmp5.yN Cmp5.yB 7 (some .int), .code CodL.yN CodL.yB 2 (some .byte)]
theorem tab_of {a : Array Value} {s : State} (h : ∀ w ∈ words, w.before a s = true) : New1.tab.before a s = true := by
  have h5 : Cmp5.tab.before a s = true := unparts (wk h (.code Cmp5.yN Cmp5.yB 7 (some .int))) (wks h (.initialized Cmp5.yN.cls :: Cmp5.site))
  have hc : CodL.tab.before a s = true := unparts (wk h (.code CodL.yN CodL.yB 2 (some .byte))) (wks h (.initialized CodL.yN.cls :: CodL.site))
  have q5 : ∀ w ∈ Cmp5.tab :: words, w.before a s = true := fun w hw => (List.mem_cons.mp hw).elim (fun e => e ▸ h5) (h w)
  have h3 : Cmp3.tab.before a s = true := unparts (wk q5 (.code Cmp3.yN Cmp3.yB 6 (some (.array .byte)))) (wks q5 (.initialized Cmp3.yN.cls :: Cmp3.site))
  have q3 : ∀ w ∈ Cmp3.tab :: CodL.tab :: words, w.before a s = true := fun w hw => (List.mem_cons.mp hw).elim (fun e => e ▸ h3) fun hw => (List.mem_cons.mp hw).elim (fun e => e ▸ hc) (h w)
  have h4 : New4.tab.before a s = true := unparts (wk q3 (.code New4.yN New4.yB 6 none)) (wks q3 (.initialized New4.yN.cls :: New4.site))
  have q4 : ∀ w ∈ New4.tab :: words, w.before a s = true := fun w hw => (List.mem_cons.mp hw).elim (fun e => e ▸ h4) (h w)
  exact unparts (wk q4 (.code New1.yN New1.yB 2 none)) (wks q4 (.initialized New1.yN.cls :: New1.site))
theorem moved {Z s : State} {a0 args : Array Value} (hZ : Z.Warmed39 s.vm) (hw : ∀ d ∈ words, d.before a0 Z = true) : ∀ d ∈ words, d.before args s = true := fun d hd => by
  have q := hw d hd
  have t : ∀ d ∈ words, d = .arrayClass .byte ∨ (d.onTables && d.keepsFace) = true := by decide +kernel
  rcases t d hd with rfl | t
  · exact RoadKit.mvA hZ q
  · exact RoadKit.mv hZ q t
def Q (Z : State) (x : Addr) (A : Cell) (h : Heap) (v : Option Value) (h' : Heap) (L : List Loc) : Prop := v = none ∧ (∀ y ∈ L, y.base = x) ∧ RoadKit.Keep h h' [x] ∧ h'.size = h.size + 1 ∧ RoadKit.Exa Z h' x ST ∧ RoadKit.Fld Z h' x ST "value" "[B" (.ref h.size) ∧ RoadKit.Fld Z h' x ST "coder" "B" (.int 0) ∧
  (∃ V : Cell, RoadKit.Arr Z h' h.size V .byte ∧ V.vm = .none ∧ Z.vm.findClass "[B" = some V.cls ∧ V.slots.size = A.slots.size ∧ ∀ j, j < A.slots.size → V.slots[j]? = some (.int (lo8 (cv A j)))) ∧
  ∀ (O n d : String) (w : Value), RoadKit.Fld Z h x O n d w → RoadKit.slotOf Z O n d ≠ RoadKit.slotOf Z ST "value" "[B" → RoadKit.slotOf Z O n d ≠ RoadKit.slotOf Z ST "coder" "B" → RoadKit.Fld Z h' x O n d w
theorem back {p : Program} {l : Launch} {e : Env} {R : Room} {s : State} {args : Array Value} {below : List Frame} {len W : Nat} {Z : State} {a0 : Array Value} {h : Heap} (hZ : Z.Warmed39 s.vm) (hw : ∀ d ∈ words, d.before a0 Z = true) {kI : Nat} (wi : (Jvm.Cond.instantiable ST kI).before a0 Z = true)
    {x b : Addr} {A : Cell} {z : Int32} {v0 c0 : Value} (E : RoadKit.Exa Z h x ST) (V : RoadKit.Fld Z h x ST "value" "[B" v0) (C : RoadKit.Fld Z h x ST "coder" "B" c0) (K : RoadKit.Arr Z h b A .char) (hty : Typed .char A) (S : RoadKit.Sta Z h ST "COMPACT_STRINGS" "Z" (.int z)) (hz : ¬ z = 0)
    (l0 : 0 < A.slots.size) (l2 : A.slots.size ≤ 536870912) (hp : ∀ i, i < A.slots.size → ¬ 255 < cv A i) (hfr : 4 ≤ R.frames) (hlo : W + 65 ≤ R.locals) :
    Back l R p e below s args New1.yN len W (fun P a => a = #[.ref x, .ref b] ∧ P.U.heap = h ∧ P.cells + 1 ≤ R.cells ∧ P.slots + A.slots.size ≤ R.slots)
      (fun P _ v B => ∃ L, Q Z x A h v B.U.heap L ∧ B.locs = P.locs ++ L ∧ B.cells = P.cells + 1 ∧ B.slots = P.slots + A.slots.size) := by
  intro m meth c P g ig mk a X hg hsize hdg hW hn hp'
  obtain ⟨rfl, rfl, r1, r2⟩ := hp'
  have al : Z.vm.Alike P.U.vm := hZ.alike.trans X.warmed.alike
  obtain ⟨D, cfV, kV, iV, fV, hD, gV, stV, knV, obV, asV, slV⟩ := id V
  obtain ⟨D', cfC, kC, iC, fC, hD', gC, stC, -, -, asC, slC⟩ := id C
  cases hD.symm.trans hD'
  obtain ⟨D2, kD, e1, e2, e3, e4, e5⟩ := id E
  cases hD.symm.trans e1
  obtain ⟨c2, k2, i1, i2, i3, -⟩ := Cond.instantiable_spec wi
  cases e2.symm.trans i1
  cases e3.symm.trans i2
  obtain ⟨kU, u1, u2⟩ := al.2.2 _ _ e3
  have hB : Blank ST x D P.U := ⟨hD, ⟨knV, fun q hq => by rw [hq] at obV; cases obV⟩, by rw [al.findClass]; exact e2, kU, u1, by rw [u2]; exact i3, by rw [u2]; exact e5 i3⟩
  have F1 : Found ST "value" "[B" fV P.U := ⟨SBG.found_only al ⟨cfV, kV, iV, gV⟩, stV⟩
  have F2 : Found ST "coder" "B" fC P.U := ⟨SBG.found_only al ⟨cfC, kC, iC, gC⟩, stC⟩
  have hA : Ch b A P.U := ⟨⟨K.1, State.isArrayOf_alike al K.2.1, K.2.2, by omega⟩, hty⟩
  have hS : StaticIs P.U ST "COMPACT_STRINGS" "Z" (.int z) := by
    obtain ⟨cfS, iS, kS, fS, st, cS, t1, t2, t3, t4, t5, t6, t7⟩ := S
    exact StaticIs.there (s := { Z with heap := P.U.heap }) ⟨cfS, iS, kS, fS, st, cS, t1, t2, t3, t4, t5, (fun q => by rw [q] at t6; cases t6), t7⟩ al rfl
  obtain ⟨v, B, X', ⟨⟨hv, E', V', q1, q2, q3, q4, q5, q6, q7, q8, q9, q10, q11⟩, hl, hc, hs⟩, st⟩ := New1.pays x D fV fC b A z (tab_of (moved hZ hw)) hfr hlo m meth c P g ig mk _ X hg hsize hdg hW hn ⟨r1, r2, rfl, hB, F1, F2, hA, hS, hz, l0, l2, hp⟩
  have al' : Z.vm.Alike B.U.vm := hZ.alike.trans X'.warmed.alike
  have hsz : E'.slots.size = D.slots.size := by
    obtain ⟨-, -, -, kB, w1, w2, w3⟩ := q1
    obtain ⟨kB', y1, y2⟩ := al'.2.2 _ _ e3
    rw [q2.2.1] at w1
    cases w1.symm.trans y1
    rw [w3, e5 i3, y2]
  refine ⟨v, B, X', ⟨_, ⟨hv, ?_, ⟨by omega, fun y cy hy hn' => q10 y cy (by simpa using hn') hy, fun y cy hy => ?_⟩, q11, ⟨E', _, q1.1, by rw [q2.2.1]; exact e2, by rw [q2.2.1]; exact e3, by rw [q2.1]; exact obV, fun _ => by rw [hsz]; exact e5 i3⟩,
    ⟨E', cfV, kV, iV, fV, q1.1, gV, stV, by rw [q2.1]; exact knV, by rw [q2.1]; exact obV, by rw [q2.2.1]; exact asV, q3⟩, ⟨E', cfC, kC, iC, fC, q1.1, gC, stC, by rw [q2.1]; exact knV, by rw [q2.1]; exact obV, by rw [q2.2.1]; exact asC, q4⟩,
    ⟨V', ⟨q5.1, State.isArrayOf_alike al'.symm q5.2.1, q5.2.2.1⟩, q6, by rw [← al'.findClass]; exact q7, q8, fun j hj => by have := q9 j hj; rwa [Nat.zero_add] at this⟩, fun O n d w F n1 n2 => ?_⟩, hl, hc, hs⟩, st⟩
  · intro y hy
    simp only [List.mem_cons, List.not_mem_nil, or_false] at hy
    rcases hy with rfl | rfl <;> rfl
  · by_cases q : y = x
    · subst q
      cases hD.symm.trans hy
      exact ⟨E', q1.1, q2.2.1, q2.1, hsz⟩
    · exact ⟨cy, q10 y cy q hy, rfl, rfl, rfl⟩
  · obtain ⟨D3, cf, k, i, f, g1, g2, g3, g4, g5, g6, g7⟩ := F
    cases hD.symm.trans g1
    simp only [RoadKit.slotOf, g2, gV, gC, Option.map_some, Option.getD_some] at n1 n2
    exact ⟨E', cf, k, i, f, q1.1, g2, g3, by rw [q2.1]; exact g4, by rw [q2.1]; exact g5, by rw [q2.2.1]; exact g6, by rw [q2.2.2 f.slot (by simp [n1, n2])]; exact g7⟩
end StrChars.Road
namespace StrChars.Road
open Jvm Sem ClassFile Op Lib Jvm.Stand Jvm.Free Jvm.Free.XT
def QA (Z : State) (x : Addr) (zn : Int32) (cs : List Int32) (h : Heap) (v : Option Value) (h' : Heap) (L : List Loc) : Prop := v = none ∧ (∀ y ∈ L, y.base = x) ∧ RoadKit.Keep h h' [x] ∧ h'.size = h.size + 1 ∧ RoadKit.Exa Z h' x ST ∧ RoadKit.Fld Z h' x ST "value" "[B" (.ref h.size) ∧ RoadKit.Fld Z h' x ST "coder" "B" (.int 0) ∧
  (∃ kb, Z.vm.findClass "[B" = some kb ∧ RoadKit.Arv Z h' h.size kb .byte zn (cs.map fun c => .int (lo8 c)) (.int 0)) ∧
  ∀ (O n d : String) (w : Value), RoadKit.Fld Z h x O n d w → RoadKit.slotOf Z O n d ≠ RoadKit.slotOf Z ST "value" "[B" → RoadKit.slotOf Z O n d ≠ RoadKit.slotOf Z ST "coder" "B" → RoadKit.Fld Z h' x O n d w
theorem backArv {p : Program} {l : Launch} {e : Env} {R : Room} {s : State} {args : Array Value} {below : List Frame} {len W : Nat} {Z : State} {a0 : Array Value} {h : Heap} (hZ : Z.Warmed39 s.vm) (hw : ∀ d ∈ words, d.before a0 Z = true) {kI : Nat} (wi : (Jvm.Cond.instantiable ST kI).before a0 Z = true)
    {x b : Addr} {k : ClassId} {zn z : Int32} {cs : List Int32} {dv v0 c0 : Value} (E : RoadKit.Exa Z h x ST) (V : RoadKit.Fld Z h x ST "value" "[B" v0) (C : RoadKit.Fld Z h x ST "coder" "B" c0) (K : RoadKit.Arv Z h b k .char zn (cs.map Value.int) dv) (S : RoadKit.Sta Z h ST "COMPACT_STRINGS" "Z" (.int z)) (hz : ¬ z = 0)
    (hlen : zn.toNatClampNeg = cs.length) (h0 : 0 < cs.length) (hbig : cs.length ≤ 536870912) (hall : ∀ c ∈ cs, ¬ 255 < c) (hfr : 4 ≤ R.frames) (hlo : W + 65 ≤ R.locals) :
    Back l R p e below s args New1.yN len W (fun P a => a = #[.ref x, .ref b] ∧ P.U.heap = h ∧ P.cells + 1 ≤ R.cells ∧ P.slots + cs.length ≤ R.slots)
      (fun P _ v B => ∃ L, QA Z x zn cs h v B.U.heap L ∧ B.locs = P.locs ++ L ∧ B.cells = P.cells + 1 ∧ B.slots = P.slots + cs.length) := by
  obtain ⟨A, K1, K2, K3, K4, K5, K6⟩ := K
  have e : A.slots.size = cs.length := K3.trans hlen
  have hat : ∀ (i : Nat) (hi : i < cs.length), A.slots[i]? = some (.int cs[i]) := fun i hi => by rw [K5 i (by omega)]; simp [List.getD_eq_getElem?_getD, hi]
  have hcv : ∀ (i : Nat) (hi : i < cs.length), cv A i = cs[i] := fun i hi => by unfold cv; rw [hat i hi]
  have hty : Typed .char A := fun i v hv => by
    have hi : i < A.slots.size := (Array.getElem?_eq_some_iff.mp hv).1
    have q := K5 i hi
    rw [hv] at q
    rw [Option.some.inj q]
    exact K6 i hi
  refine Back.mono (back hZ hw wi E V C K1 hty S hz (by omega) (by omega) (fun i hi => by rw [hcv i (by omega)]; exact hall _ (List.getElem_mem _)) hfr hlo) (fun P a hp => ⟨hp.1, hp.2.1, hp.2.2.1, by rw [e]; exact hp.2.2.2⟩) (fun P a v B hp hq => ?_)
  obtain ⟨L, ⟨q1, q2, q3, q4, q5, q6, q7, ⟨V', v1, v2, v3, v4, v5⟩, q9⟩, hl, hc, hs⟩ := hq
  refine ⟨L, ⟨q1, q2, q3, q4, q5, q6, q7, ⟨V'.cls, v3, V', v1, rfl, by rw [v4, e, hlen], K4, fun i hi => ?_, fun i hi => ?_⟩, q9⟩, hl, hc, by rw [hs, e]⟩
  · have hi' : i < cs.length := by omega
    rw [v5 i (by omega), hcv i hi']; simp [List.getD_eq_getElem?_getD, hi']
  · have hi' : i < cs.length := by omega
    simp only [List.getD_eq_getElem?_getD, List.getElem?_map, List.getElem?_eq_getElem hi', Option.map_some, Option.getD_some]
    exact fits_lo8 _
end StrChars.Road
namespace StrChars.Road
open Jvm Sem ClassFile Op Lib Jvm.Stand Jvm.Free Jvm.Free.XT
def QV (Z : State) (x : Addr) (N : Int32) (bs : List Int32) (h : Heap) (n0 : Nat) (v : Option Value) (h' : Heap) (L : List Loc) : Prop := v = none ∧ RoadKit.Fr n0 L ∧ RoadKit.Keep h h' [x] ∧ RoadKit.Exa Z h' x ST ∧ RoadKit.Fld Z h' x ST "coder" "B" (.int 0) ∧
  ∃ (t : Addr) (kb : ClassId), n0 ≤ t ∧ h.size ≤ t ∧ ¬ t = x ∧ RoadKit.Fld Z h' x ST "value" "[B" (.ref t) ∧ RoadKit.Arv Z h' t kb .byte N (bs.map Value.int) (.int 0)
theorem backV {p : Program} {l : Launch} {e : Env} {R : Room} {s : State} {args : Array Value} {below : List Frame} {len W : Nat} {Z : State} {a0 : Array Value} {h : Heap} (hZ : Z.Warmed39 s.vm) (hw : ∀ d ∈ words, d.before a0 Z = true) {kI : Nat} (wi : (Jvm.Cond.instantiable ST kI).before a0 Z = true)
    {x b : Addr} {kC : ClassId} {cs bs : List Int32} {d v0 c0 : Value} {z N : Int32} {n n0 : Nat} (hx0 : n0 ≤ x) (hh0 : n0 ≤ h.size) (E : RoadKit.Exa Z h x ST) (V : RoadKit.Fld Z h x ST "value" "[B" v0) (C : RoadKit.Fld Z h x ST "coder" "B" c0) (K : RoadKit.Arv Z h b kC .char N (cs.map Value.int) d) (S : RoadKit.Sta Z h ST "COMPACT_STRINGS" "Z" (.int z)) (hz : ¬ z = 0)
    (hn : cs.length = n) (hN : N = Int32.ofNat n) (l0 : 0 < n) (l2 : n ≤ 4000) (hp : ∀ c ∈ cs, ¬ c < 0 ∧ ¬ (255 : Int32) < c) (hb : bs = cs.map (fun c => c.toInt8.toInt32)) (hfr : 4 ≤ R.frames) (hlo : W + 65 ≤ R.locals) :
    Back l R p e below s args (⟨"java/lang/String", "<init>", "([C)V"⟩ : MethodName) len W (fun P a => a = #[.ref x, .ref b] ∧ P.U.heap = h ∧ P.cells + 1 ≤ R.cells ∧ P.slots + n ≤ R.slots)
      (fun P _ v B => ∃ L, QV Z x N bs h n0 v B.U.heap L ∧ B.locs = P.locs ++ L ∧ B.cells = P.cells + 1 ∧ B.slots = P.slots + n) := by
  subst hn hN hb
  refine Back.mono (backArv hZ hw wi E V C K S hz (n32 (by omega)) l0 (by omega) (fun c hc => (hp c hc).2) hfr hlo) (fun P a hp => hp) (fun P a v B hp hq => ?_)
  obtain ⟨L, ⟨q1, q2, q3, q4, q5, q6, q7, ⟨kb, v1, v2⟩, q9⟩, hl, hc, hs⟩ := hq
  exact ⟨L, ⟨q1, fun y hy => by rw [q2 y hy]; exact hx0, q3, q5, q7, h.size, kb, hh0, Nat.le_refl _, Nat.ne_of_gt E.lt, q6, by rw [List.map_map]; exact v2⟩, hl, hc, hs⟩
end StrChars.Road
namespace StrChars
open Jvm Sem ClassFile Op Lib Jvm.Stand Jvm.Free.XT Jvm.Free.ALB Jvm.Free.JM Jvm.Free
open Jvm.Lib.Cold (StaticIs)
def hi8 (x : Int32) : Int32 := lo8 (x >>> ((8 : Int32) &&& 31))
def pairCh (u v : Int32) : Int32 := (((u &&& 255) <<< ((0 : Int32) &&& 31)) ||| ((v &&& 255) <<< ((8 : Int32) &&& 31))).toUInt32.toUInt16.toUInt32.toInt32
theorem lo8_and (x : Int32) : (lo8 x &&& 255).toBitVec.toNat = x.toBitVec.toNat % 256 := by
  have h : (lo8 x).toBitVec = (x.toBitVec.signExtend 8).signExtend 32 := by rw [lo8, Int8.toBitVec_toInt32, Int32.toBitVec_toInt8]
  rw [Int32.toBitVec_and, BitVec.toNat_and, h]
  have e : ((x.toBitVec.signExtend 8).signExtend 32).toNat % 256 = x.toBitVec.toNat % 256 := by
    rw [BitVec.toNat_signExtend]
    have hlt := x.toBitVec.isLt
    simp only [BitVec.toNat_setWidth, BitVec.toNat_signExtend]
    split <;> split <;> omega
  rw [← e]
  exact Nat.and_two_pow_sub_one_eq_mod _ 8
theorem pair_says {c : Int32} (h0 : ¬ c < 0) (h1 : ¬ 65535 < c) : pairCh (lo8 c) (hi8 c) = c := by
  rw [Int32.lt_iff_toInt_lt] at h0 h1
  have e0 : (0 : Int32).toInt = 0 := rfl
  have e1 : (65535 : Int32).toInt = 65535 := rfl
  have hc : c.toInt = c.toBitVec.toNat := by
    have := c.toBitVec.isLt
    have e : c.toInt = c.toBitVec.toInt := rfl
    rw [e] at h0 h1
    rw [e]
    rw [BitVec.toInt_eq_toNat_cond] at h0 h1 ⊢
    split at h0 <;> split <;> omega
  have hn : c.toBitVec.toNat < 65536 := by omega
  have a1 := lo8_and c
  have a2 : (hi8 c &&& 255).toBitVec.toNat = c.toBitVec.toNat / 256 := by
    rw [hi8, lo8_and]
    have e : ((8 : Int32) &&& 31) = 8 := by decide
    rw [e, Int32.toBitVec_shiftRight]
    have e2 : ((8 : Int32).toBitVec.smod 32) = 8#32 := by decide
    rw [e2, BitVec.sshiftRight_eq', BitVec.toNat_sshiftRight_of_msb_false (by rw [BitVec.msb_eq_false_iff_two_mul_lt]; omega)]
    show c.toBitVec.toNat >>> 8 % 256 = _
    rw [Nat.shiftRight_eq_div_pow]
    omega
  unfold pairCh
  apply Int32.toBitVec_inj.mp
  apply BitVec.eq_of_toNat_eq
  have f0 : ((0 : Int32) &&& 31) = 0 := by decide
  have f8 : ((8 : Int32) &&& 31) = 8 := by decide
  rw [f0, f8]
  have g : (((lo8 c &&& 255) <<< (0 : Int32)) ||| ((hi8 c &&& 255) <<< (8 : Int32))).toBitVec.toNat = c.toBitVec.toNat := by
    rw [Int32.toBitVec_or, Int32.toBitVec_shiftLeft, Int32.toBitVec_shiftLeft]
    have s0 : ((0 : Int32).toBitVec.smod 32) = 0#32 := by decide
    have s8 : ((8 : Int32).toBitVec.smod 32) = 8#32 := by decide
    rw [s0, s8, BitVec.toNat_or]
    simp only [BitVec.shiftLeft_eq', BitVec.toNat_shiftLeft, a1, a2]
    show (c.toBitVec.toNat % 256) <<< 0 % 2 ^ 32 ||| (c.toBitVec.toNat / 256) <<< 8 % 2 ^ 32 = _
    rw [Nat.shiftLeft_zero, Nat.mod_eq_of_lt (show c.toBitVec.toNat % 256 < 2 ^ 32 by omega), Nat.mod_eq_of_lt (show (c.toBitVec.toNat / 256) <<< 8 < 2 ^ 32 by rw [Nat.shiftLeft_eq]; omega), Nat.or_comm, ← Nat.shiftLeft_add_eq_or_of_lt (by omega), Nat.shiftLeft_eq]
    omega
  show BitVec.toNat (((((lo8 c &&& 255) <<< (0 : Int32)) ||| ((hi8 c &&& 255) <<< (8 : Int32))).toBitVec.setWidth 16).setWidth 32) = _
  rw [BitVec.toNat_setWidth, BitVec.toNat_setWidth, g]
  omega
end StrChars
namespace StrChars
open Jvm Sem ClassFile Op Lib Jvm.Stand Jvm.Free.XT Jvm.Free.ALB Jvm.Free.JM Jvm.Free
open Jvm.Lib.Cold (StaticIs)
def Cod (cd : Int32) (n : Nat) (f : Nat → Int32) (V : Cell) : Prop := (cd = 0 ∧ V.slots.size = n ∧ ∀ j, j < n → V.slots[j]? = some (.int (lo8 (f j))) ∧ ¬ 255 < f j) ∨ (cd = 1 ∧ V.slots.size = 2 * n ∧ (∀ j, j < n → V.slots[2 * j]? = some (.int (lo8 (f j))) ∧ V.slots[2 * j + 1]? = some (.int (hi8 (f j)))) ∧ ∃ j, j < n ∧ 255 < f j)
def Txt (x t : Addr) (V : Cell) (cd : Int32) (n : Nat) (f : Nat → Int32) (U : State) : Prop := Exact "java/lang/String" x U ∧ Has x "java/lang/String" "value" "[B" (.ref t) U ∧ Has x "java/lang/String" "coder" "B" (.int cd) U ∧ XT.Arr .byte t V U ∧ Cod cd n f V ∧ ∀ j, j < n → ¬ f j < 0 ∧ ¬ 65535 < f j
theorem Txt.mv {x t : Addr} {V : Cell} {cd : Int32} {n : Nat} {f : Nat → Int32} {U U' : State} (h : Txt x t V cd n f U) (hal : U.vm.Alike U'.vm) (hh : U'.heap = U.heap) : Txt x t V cd n f U' := ⟨h.1.mv hal hh, h.2.1.mv hal hh, h.2.2.1.mv hal hh, h.2.2.2.1.mv hal hh, h.2.2.2.2⟩
end StrChars
namespace StrChars.Road
open Jvm Sem ClassFile Op Lib Jvm.Stand Jvm.Free Jvm.Free.XT
open Jvm.Lib.Cold (StaticIs)
theorem consq {a : Array Value} {s : State} {c : Jvm.Cond} {L : List Jvm.Cond} (h0 : c.before a s = true) (h : ∀ w ∈ L, w.before a s = true) : ∀ w ∈ c :: L, w.before a s = true := fun w hw => (List.mem_cons.mp hw).elim (fun e => e ▸ h0) (h w)
def wideBytes : List Int32 → List Value
  | [] => []
  | c :: cs => .int (lo8 c) :: .int (hi8 c) :: wideBytes cs
theorem wide_lo (d : Value) : ∀ (cs : List Int32) (j : Nat), j < cs.length → (wideBytes cs).getD (2 * j) d = .int (lo8 (cs.getD j 0))
  | [], j, h => absurd h (Nat.not_lt_zero j)
  | c :: cs, 0, _ => rfl
  | c :: cs, j + 1, h => by
    have q := wide_lo d cs j (by simpa using h)
    rw [show 2 * (j + 1) = 2 * j + 1 + 1 from by omega]
    simpa [wideBytes] using q
theorem wide_hi (d : Value) : ∀ (cs : List Int32) (j : Nat), j < cs.length → (wideBytes cs).getD (2 * j + 1) d = .int (hi8 (cs.getD j 0))
  | [], j, h => absurd h (Nat.not_lt_zero j)
  | c :: cs, 0, _ => rfl
  | c :: cs, j + 1, h => by
    have q := wide_hi d cs j (by simpa using h)
    rw [show 2 * (j + 1) + 1 = 2 * j + 1 + 1 + 1 from by omega]
    simpa [wideBytes] using q
theorem low_at (d : Value) (cs : List Int32) (j : Nat) (h : j < cs.length) : (cs.map fun c => Value.int (lo8 c)).getD j d = .int (lo8 (cs.getD j 0)) := by
  simp [List.getD_eq_getElem?_getD, h]
def CodA (cs : List Int32) (cd N2 : Int32) (vs : List Value) : Prop := (cd = 0 ∧ N2 = Int32.ofNat cs.length ∧ vs = (cs.map fun c => Value.int (lo8 c)) ∧ ∀ c ∈ cs, ¬ 255 < c) ∨ (cd = 1 ∧ N2 = Int32.ofNat (2 * cs.length) ∧ vs = wideBytes cs ∧ ∃ c ∈ cs, 255 < c)
theorem CodA.cod {cs : List Int32} {cd N2 : Int32} {vs : List Value} {V : Cell} (h : CodA cs cd N2 vs) (hn : 2 * cs.length < 2 ^ 31) (hs : V.slots.size = N2.toNatClampNeg) (hv : RoadKit.Has V vs (.int 0)) : Cod cd cs.length (fun j => cs.getD j 0) V := by
  rcases h with ⟨rfl, rfl, rfl, h⟩ | ⟨rfl, rfl, rfl, c, hc, hw⟩
  · rw [n32 (by omega)] at hs
    exact Or.inl ⟨rfl, hs, fun j hj => ⟨by rw [hv j (by omega), low_at _ _ _ hj], by
      have e : cs.getD j 0 = cs[j] := by simp [List.getD_eq_getElem?_getD, hj]
      show ¬ 255 < cs.getD j 0
      rw [e]; exact h _ (List.getElem_mem _)⟩⟩
  · rw [n32 (by omega)] at hs
    obtain ⟨j, hj, rfl⟩ := List.getElem_of_mem hc
    exact Or.inr ⟨rfl, hs, fun j hj => ⟨by rw [hv _ (by omega), wide_lo _ _ _ hj], by rw [hv _ (by omega), wide_hi _ _ _ hj]⟩, j, hj, by
      have e : cs.getD j 0 = cs[j] := by simp [List.getD_eq_getElem?_getD, hj]
      show 255 < cs.getD j 0
      rw [e]; exact hw⟩
theorem strObj {Z U : State} {a0 : Array Value} {kI : Nat} (wi : (Jvm.Cond.instantiable ST kI).before a0 Z = true) (al : Z.vm.Alike U.vm) {x : Addr} {v0 c0 : Value} (E : RoadKit.Exa Z U.heap x ST) (V : RoadKit.Fld Z U.heap x ST "value" "[B" v0) (C : RoadKit.Fld Z U.heap x ST "coder" "B" c0) :
    ∃ (D : Cell) (fV fC : Field), Blank ST x D U ∧ Found ST "value" "[B" fV U ∧ Found ST "coder" "B" fC U ∧ D.slots[fV.slot]? = some v0 ∧ D.slots[fC.slot]? = some c0 ∧ RoadKit.slotOf Z ST "value" "[B" = fV.slot ∧ RoadKit.slotOf Z ST "coder" "B" = fC.slot := by
  obtain ⟨D, cfV, kV, iV, fV, hD, gV, stV, knV, obV, asV, slV⟩ := V
  obtain ⟨D', cfC, kC, iC, fC, hD', gC, stC, -, -, asC, slC⟩ := C
  cases hD.symm.trans hD'
  obtain ⟨D2, kD, e1, e2, e3, e4, e5⟩ := E
  cases hD.symm.trans e1
  obtain ⟨c2, k2, i1, i2, i3, -⟩ := Cond.instantiable_spec wi
  cases e2.symm.trans i1
  cases e3.symm.trans i2
  obtain ⟨kU, u1, u2⟩ := al.2.2 _ _ e3
  exact ⟨D, fV, fC, ⟨hD, ⟨knV, fun q hq => by rw [hq] at obV; cases obV⟩, by rw [al.findClass]; exact e2, kU, u1, by rw [u2]; exact i3, by rw [u2]; exact e5 i3⟩, ⟨SBG.found_only al ⟨cfV, kV, iV, gV⟩, stV⟩, ⟨SBG.found_only al ⟨cfC, kC, iC, gC⟩, stC⟩, slV, slC, by simp [RoadKit.slotOf, gV], by simp [RoadKit.slotOf, gC]⟩
theorem sta_is {Z U : State} (al : Z.vm.Alike U.vm) {C n d : String} {v : Value} (S : RoadKit.Sta Z U.heap C n d v) : StaticIs U C n d v := by
  obtain ⟨cfS, iS, kS, fS, st, cS, t1, t2, t3, t4, t5, t6, t7⟩ := S
  exact StaticIs.there (s := { Z with heap := U.heap }) ⟨cfS, iS, kS, fS, st, cS, t1, t2, t3, t4, t5, (fun q => by rw [q] at t6; cases t6), t7⟩ al rfl
end StrChars.Road
namespace StrChars
open Jvm Sem ClassFile Op Lib Jvm.Stand Jvm.Free.XT Jvm.Free.ALB Jvm.Free.JM Jvm.Free
open Jvm.Lib.Cold (StaticIs)
def yv (A : Cell) (i : Nat) : Int32 := match A.slots[i]? with | some (.int x) => x | _ => 0
theorem yv_get {a : Addr} {A : Cell} {U : State} (h : XT.Arr .byte a A U) (ht : Typed .byte A) {i : Nat} (hi : i < A.slots.size) : A.slots[i]? = some (.int (yv A i)) := by
  have e := Array.getElem?_eq_getElem hi
  have f := ht i _ e
  unfold yv; rw [e]
  generalize A.slots[i] = v at f
  cases v <;> simp [fits] at f ⊢
def EqC (A B : Cell) : Prop := A.slots.size = B.slots.size ∧ ∀ i, i < A.slots.size → yv A i = yv B i
def Says01 (q : Prop) (r : Option Value) (s u : State) : Prop := ∃ v : Int32, r = some (.int v) ∧ u.heap = s.heap ∧ ((v = 1 ∧ q) ∨ (v = 0 ∧ ¬ q))
theorem Says01.mv {q : Prop} : ∀ r (U U' V V' : State), U'.heap = U.heap → V.vm.Alike V'.vm → V'.heap = V.heap → Says01 q r U V → Says01 q r U' V' :=
  fun r U U' V V' h1 _ h2 ⟨v, a, b, c⟩ => ⟨v, a, by rw [h1, h2]; exact b, c⟩
namespace LEq
def yN : MethodName := ⟨"java/lang/StringLatin1", "equals", "([B[B)Z"⟩
abbrev yB : ByteArray := jdk_43_method_13_code
theorem d0 : decode yB 0 = .ok (.aload_n 0, 1) := by decide +kernel
theorem d1 : decode yB 1 = .ok (.arraylength, 1) := by decide +kernel
theorem d2 : decode yB 2 = .ok (.aload_n 1, 1) := by decide +kernel
theorem d3 : decode yB 3 = .ok (.arraylength, 1) := by decide +kernel
theorem d4 : decode yB 4 = .ok (.if_icmp (.ne) 30, 3) := by decide +kernel
theorem d7 : decode yB 7 = .ok (.iconst 0, 1) := by decide +kernel
theorem d8 : decode yB 8 = .ok (.istore_n 2, 1) := by decide +kernel
theorem d9 : decode yB 9 = .ok (.iload_n 2, 1) := by decide +kernel
theorem d10 : decode yB 10 = .ok (.aload_n 0, 1) := by decide +kernel
theorem d11 : decode yB 11 = .ok (.arraylength, 1) := by decide +kernel
theorem d12 : decode yB 12 = .ok (.if_icmp (.ge) 20, 3) := by decide +kernel
theorem d15 : decode yB 15 = .ok (.aload_n 0, 1) := by decide +kernel
theorem d16 : decode yB 16 = .ok (.iload_n 2, 1) := by decide +kernel
theorem d17 : decode yB 17 = .ok (.baload, 1) := by decide +kernel
theorem d18 : decode yB 18 = .ok (.aload_n 1, 1) := by decide +kernel
theorem d19 : decode yB 19 = .ok (.iload_n 2, 1) := by decide +kernel
theorem d20 : decode yB 20 = .ok (.baload, 1) := by decide +kernel
theorem d21 : decode yB 21 = .ok (.if_icmp (.eq) 5, 3) := by decide +kernel
theorem d24 : decode yB 24 = .ok (.iconst 0, 1) := by decide +kernel
theorem d25 : decode yB 25 = .ok (.ireturn, 1) := by decide +kernel
theorem d26 : decode yB 26 = .ok (.iinc 2 1, 3) := by decide +kernel
theorem d29 : decode yB 29 = .ok (.goto (-20), 3) := by decide +kernel
theorem d32 : decode yB 32 = .ok (.iconst 1, 1) := by decide +kernel
theorem d33 : decode yB 33 = .ok (.ireturn, 1) := by decide +kernel
theorem d34 : decode yB 34 = .ok (.iconst 0, 1) := by decide +kernel
theorem d35 : decode yB 35 = .ok (.ireturn, 1) := by decide +kernel
def site : List Cond := []
def tab : Cond := tabOf yN yB 3 (some .boolean) site
def P (a : Addr) (A : Cell) (b : Addr) (B : Cell) (args : Array Value) (s : State) : Prop := args = #[.ref a, .ref b] ∧ XT.Arr .byte a A s ∧ Typed .byte A ∧ XT.Arr .byte b B s ∧ Typed .byte B
theorem law (l : Launch) (a : Addr) (A : Cell) (b : Addr) (B : Cell) : Law l yN 2 2 0 0 yB 3 (some .boolean) site (P a A b B) (Says01 (EqC A B)) [] 0 0 := by
  refine Law.of_walk (plainFor_of_name (by decide +kernel)) (by decide +kernel) (by decide +kernel) (by decide) (fun _ _ h => by rw [h.1]; rfl) (fun _ U U' hal hh h => ⟨h.1, h.2.1.mv hal hh, h.2.2.1, h.2.2.2.1.mv hal hh, h.2.2.2.2⟩) (fun r U U' V V' h1 hal h2 h => Says01.mv r U U' V V' h1 hal h2 h) ?_
  intro p e s m args below meth c s₁ X0 hexec hbytes hml hret hlk hnm hown hh0 W hP
  obtain ⟨rfl, hA, tA, hB, tB⟩ := hP
  have a31 := hA.2.2.2
  have b31 := hB.2.2.2
  have hA0 := hA.mv X0.warmed.alike hh0
  have hB0 := hB.mv X0.warmed.alike hh0
  have c1 : Steps p.tables e below (s₁.setTop (entryFrame m #[.ref a, .ref b] 3)) (s₁.setTop (mkF m 0 #[.val (.ref a), .val (.ref b), .unset] [])) := entry rfl
  have c2 : Steps p.tables e below (s₁.setTop (entryFrame m #[.ref a, .ref b] 3)) (s₁.setTop (mkF m 4 #[.val (.ref a), .val (.ref b), .unset] [.int (Int32.ofNat B.slots.size), .int (Int32.ofNat A.slots.size)])) := c1.trans (by
    refine XS.aloadN X0.here hexec rfl (hb hbytes d0) rfl rfl ?_
    refine X0.alen hexec hA0 rfl rfl (hb hbytes d1) ?_
    refine XS.aloadN X0.here hexec rfl (hb hbytes d2) rfl rfl ?_
    refine X0.alen hexec hB0 rfl rfl (hb hbytes d3) ?_
    exact Steps.refl _)
  by_cases hs : A.slots.size = B.slots.size
  · have c3 : Steps p.tables e below (s₁.setTop (entryFrame m #[.ref a, .ref b] 3)) (s₁.setTop (mkF m 9 #[.val (.ref a), .val (.ref b), .val (.int 0)] [])) := c2.trans (by
      refine XS.icmpNo X0.here hexec rfl (hb hbytes d4) rfl (ii_ne_f (by rw [hs])) ?_
      refine iconstV X0.here hexec rfl 0 (hb hbytes d7) (by decide) ?_
      refine XS.istoreN X0.here hexec rfl (hb hbytes d8) rfl rfl ?_
      exact Steps.refl _)
    have loop : ∀ (r i : Nat), i + r = A.slots.size → (∀ j, j < i → yv A j = yv B j) → Steps p.tables e below (s₁.setTop (entryFrame m #[.ref a, .ref b] 3)) (s₁.setTop (mkF m 9 #[.val (.ref a), .val (.ref b), .val (.int (Int32.ofNat i))] [])) → ∃ (pc : Nat) (Ls : Array Slot) (v : Int32), (pc = 25 ∨ pc = 33) ∧ ((v = 1 ∧ EqC A B) ∨ (v = 0 ∧ ¬ EqC A B)) ∧ Steps p.tables e below (s₁.setTop (entryFrame m #[.ref a, .ref b] 3)) (s₁.setTop (mkF m pc Ls [.int v])) := by
      intro r
      induction r with
      | zero =>
        intro i hi he cl
        exact ⟨33, _, 1, Or.inr rfl, Or.inl ⟨rfl, hs, fun j hj => he j (by omega)⟩, cl.trans (by
          refine XS.iloadN X0.here hexec rfl (hb hbytes d9) rfl ?_
          refine XS.aloadN X0.here hexec rfl (hb hbytes d10) rfl rfl ?_
          refine X0.alen hexec hA0 rfl rfl (hb hbytes d11) ?_
          refine XS.icmpYes X0.here hexec rfl (pc0 := 12) rfl (hb hbytes d12) rfl (ii_ge_t (nlt32 (by omega) (by omega))) (by decide) rfl ?_
          refine iconstV X0.here hexec rfl 1 (hb hbytes d32) (by decide) ?_
          exact Steps.refl _)⟩
      | succ r ih =>
        intro i hi he cl
        have c4 : Steps p.tables e below (s₁.setTop (entryFrame m #[.ref a, .ref b] 3)) (s₁.setTop (mkF m 21 #[.val (.ref a), .val (.ref b), .val (.int (Int32.ofNat i))] [.int (yv B i), .int (yv A i)])) := cl.trans (by
          refine XS.iloadN X0.here hexec rfl (hb hbytes d9) rfl ?_
          refine XS.aloadN X0.here hexec rfl (hb hbytes d10) rfl rfl ?_
          refine X0.alen hexec hA0 rfl rfl (hb hbytes d11) ?_
          refine XS.icmpNo X0.here hexec rfl (hb hbytes d12) rfl (ii_ge_f (lt32 (by omega) (by omega))) ?_
          refine XS.aloadN X0.here hexec rfl (hb hbytes d15) rfl rfl ?_
          refine XS.iloadN X0.here hexec rfl (hb hbytes d16) rfl ?_
          refine X0.aget hexec hA0 rfl (yv_get hA tA (i := i) (by omega)) rfl rfl (hb hbytes d17) ?_
          refine XS.aloadN X0.here hexec rfl (hb hbytes d18) rfl rfl ?_
          refine XS.iloadN X0.here hexec rfl (hb hbytes d19) rfl ?_
          refine X0.aget hexec hB0 rfl (yv_get hB tB (i := i) (by omega)) rfl rfl (hb hbytes d20) ?_
          exact Steps.refl _)
        by_cases hv : yv A i = yv B i
        · have c5 : Steps p.tables e below (s₁.setTop (entryFrame m #[.ref a, .ref b] 3)) (s₁.setTop (mkF m 9 #[.val (.ref a), .val (.ref b), .val (.int (Int32.ofNat i + 1))] [])) := c4.trans (by
            refine XS.icmpYes X0.here hexec rfl (pc0 := 21) rfl (hb hbytes d21) rfl (ii_eq_t hv) (by decide) rfl ?_
            refine iincV X0.here hexec rfl 1 (hb hbytes d26) (by decide) rfl rfl ?_
            refine XS.goto X0.here hexec rfl (pc0 := 29) rfl (hb hbytes d29) (by decide) rfl ?_
            exact Steps.refl _)
          rw [succ32] at c5
          exact ih (i + 1) (by omega) (fun j hj => by
            by_cases e : j = i
            · rw [e]; exact hv
            · exact he j (by omega)) c5
        · exact ⟨25, _, 0, Or.inl rfl, Or.inr ⟨rfl, fun q => hv (q.2 i (by omega))⟩, c4.trans (by
            refine XS.icmpNo X0.here hexec rfl (hb hbytes d21) rfl (ii_eq_f hv) ?_
            refine iconstV X0.here hexec rfl 0 (hb hbytes d24) (by decide) ?_
            exact Steps.refl _)⟩
    obtain ⟨pc, Ls, v, hpc, hv, cz⟩ := loop A.slots.size 0 (by omega) (fun j hj => absurd hj (Nat.not_lt_zero j)) c3
    have nv : narrow .boolean (.int v) = .int v := by rcases hv with ⟨rfl, -⟩ | ⟨rfl, -⟩ <;> rfl
    rcases hpc with rfl | rfl
    · exact ⟨s₁, some (.int v), _, _, _, X0, rfl, rfl, rfl, (fun h => by cases h), ⟨v, rfl, hh0, hv⟩, fun fs hl => cz.trans (X0.ireturnOut hexec hret nv (Or.inr (Or.inl rfl)) (hb hbytes d25) hl)⟩
    · exact ⟨s₁, some (.int v), _, _, _, X0, rfl, rfl, rfl, (fun h => by cases h), ⟨v, rfl, hh0, hv⟩, fun fs hl => cz.trans (X0.ireturnOut hexec hret nv (Or.inr (Or.inl rfl)) (hb hbytes d33) hl)⟩
  · have c3 : Steps p.tables e below (s₁.setTop (entryFrame m #[.ref a, .ref b] 3)) (s₁.setTop (mkF m 35 #[.val (.ref a), .val (.ref b), .unset] [.int 0])) := c2.trans (by
      refine XS.icmpYes X0.here hexec rfl (pc0 := 4) rfl (hb hbytes d4) rfl (ii_ne_t (ne32 a31 b31 hs)) (by decide) rfl ?_
      refine iconstV X0.here hexec rfl 0 (hb hbytes d34) (by decide) ?_
      exact Steps.refl _)
    exact ⟨s₁, some (.int 0), _, _, _, X0, rfl, rfl, rfl, (fun h => by cases h), ⟨0, rfl, hh0, Or.inr ⟨rfl, fun q => hs q.1⟩⟩, fun fs hl => c3.trans (X0.ireturnOut hexec hret rfl (Or.inr (Or.inl rfl)) (hb hbytes d35) hl)⟩
end LEq
theorem Cod.ty {cd : Int32} {n : Nat} {f : Nat → Int32} {V : Cell} (h : Cod cd n f V) : Typed .byte V := fun i v hv => by
  have hi : i < V.slots.size := (Array.getElem?_eq_some_iff.mp hv).1
  rcases h with ⟨-, k1, k2⟩ | ⟨-, k1, k2, -⟩
  · rw [(k2 i (by omega)).1] at hv; cases hv; exact fits_lo8 _
  · rcases Nat.mod_two_eq_zero_or_one i with e | e
    · obtain ⟨j, rfl⟩ : ∃ j, i = 2 * j := ⟨i / 2, by omega⟩
      rw [(k2 j (by omega)).1] at hv; cases hv; exact fits_lo8 _
    · obtain ⟨j, rfl⟩ : ∃ j, i = 2 * j + 1 := ⟨i / 2, by omega⟩
      rw [(k2 j (by omega)).2] at hv; cases hv; exact fits_lo8 _
def SameT (n : Nat) (f : Nat → Int32) (k : Nat) (g : Nat → Int32) : Prop := n = k ∧ ∀ j, j < n → f j = g j
theorem lo8_inj {x y : Int32} (h0 : ¬ x < 0) (h1 : ¬ 255 < x) (k0 : ¬ y < 0) (k1 : ¬ 255 < y) (h : lo8 x = lo8 y) : x = y := by
  rw [← lo8_mask h0 h1, ← lo8_mask k0 k1, h]
theorem Cod.eqv {cd : Int32} {n k : Nat} {f g : Nat → Int32} {V V' : Cell} (h : Cod cd n f V) (h' : Cod cd k g V') (hf : ∀ j, j < n → ¬ f j < 0 ∧ ¬ 65535 < f j) (hg : ∀ j, j < k → ¬ g j < 0 ∧ ¬ 65535 < g j) : EqC V V' ↔ SameT n f k g := by
  have yvv : ∀ {W : Cell} {i : Nat} {x : Int32}, W.slots[i]? = some (.int x) → yv W i = x := fun q => by unfold yv; rw [q]
  rcases h with ⟨rfl, k1, k2⟩ | ⟨rfl, k1, k2, -⟩
  · rcases h' with ⟨-, m1, m2⟩ | ⟨e, -⟩
    · constructor
      · rintro ⟨e1, e2⟩
        refine ⟨by omega, fun j hj => ?_⟩
        have q := e2 j (by omega)
        rw [yvv (k2 j hj).1, yvv (m2 j (by omega)).1] at q
        exact lo8_inj (hf j hj).1 (k2 j hj).2 (hg j (by omega)).1 (m2 j (by omega)).2 q
      · rintro ⟨rfl, e2⟩
        refine ⟨by omega, fun j hj => ?_⟩
        rw [yvv (k2 j (by omega)).1, yvv (m2 j (by omega)).1, e2 j (by omega)]
    · exact absurd e (by decide)
  · rcases h' with ⟨e, -⟩ | ⟨-, m1, m2, -⟩
    · exact absurd e (by decide)
    · constructor
      · rintro ⟨e1, e2⟩
        refine ⟨by omega, fun j hj => ?_⟩
        have q1 := e2 (2 * j) (by omega)
        have q2 := e2 (2 * j + 1) (by omega)
        rw [yvv (k2 j hj).1, yvv (m2 j (by omega)).1] at q1
        rw [yvv (k2 j hj).2, yvv (m2 j (by omega)).2] at q2
        rw [← pair_says (hf j hj).1 (hf j hj).2, ← pair_says (hg j (by omega)).1 (hg j (by omega)).2, q1, q2]
      · rintro ⟨rfl, e2⟩
        refine ⟨by omega, fun i hi => ?_⟩
        rcases Nat.mod_two_eq_zero_or_one i with e | e
        · obtain ⟨j, rfl⟩ : ∃ j, i = 2 * j := ⟨i / 2, by omega⟩
          rw [yvv (k2 j (by omega)).1, yvv (m2 j (by omega)).1, e2 j (by omega)]
        · obtain ⟨j, rfl⟩ : ∃ j, i = 2 * j + 1 := ⟨i / 2, by omega⟩
          rw [yvv (k2 j (by omega)).2, yvv (m2 j (by omega)).2, e2 j (by omega)]
theorem Cod.dif {cd cd' : Int32} {n k : Nat} {f g : Nat → Int32} {V V' : Cell} (h : Cod cd n f V) (h' : Cod cd' k g V') (hne : ¬ cd = cd') : ¬ SameT n f k g := by
  rintro ⟨rfl, e⟩
  rcases h with ⟨rfl, -, k2⟩ | ⟨rfl, -, -, j, hj, hw⟩
  · rcases h' with ⟨rfl, -⟩ | ⟨-, -, -, j, hj, hw⟩
    · exact hne rfl
    · exact (k2 j hj).2 (by rw [e j hj]; exact hw)
  · rcases h' with ⟨-, -, m2⟩ | ⟨rfl, -⟩
    · exact (m2 j hj).2 (by rw [← e j hj]; exact hw)
    · exact hne rfl
theorem cinst {p : Program} {l : Launch} {e : Env} {R : Room} {s : State} {m : MethodId} {args : Array Value} {below : List Frame} {meth : Method} {c : Code} {T : State} {locs : List Loc} {cells slots : Nat} (X : Stand p l e R s m args below meth c T locs cells slots) (hexec : p.tables.exec = Jvm.exec) {own C : String} {index : Nat} (hown : s.vm.findClass own = some m.cls) (hlink : (Cond.classLink own index C).before args s = true) {a : Addr} (hE : Exact C a T)
    {g : JFrame} (hg : g.method = m) {rest : List Value} (hstack : g.stack = .ref a :: rest) (hdg : decode c.code g.pc = .ok (.instanceof index, 3)) :
    ∃ T', Stand p l e R s m args below meth c T' locs cells slots ∧ T'.heap = T.heap ∧ ∀ target, Steps p.tables e below (T'.setTop { g with pc := g.pc + 3, stack := .int 1 :: rest }) target → Steps p.tables e below (T.setTop g) target := by
  obtain ⟨cB, h1, D, h2, h3, h4⟩ := hE
  have h1' : s.vm.findClass C = some cB := by rw [← X.warmed.alike.findClass]; exact h1
  obtain ⟨vm', X', st⟩ := X.instanceofYes hexec hown hlink h2 h4 h1' (by rw [h3]; exact Jvm.Free.SB.assignable_self _ _) hg hstack hdg
  exact ⟨_, X', rfl, st⟩
theorem cself {p : Program} {l : Launch} {e : Env} {R : Room} {s : State} {m : MethodId} {args : Array Value} {below : List Frame} {meth : Method} {c : Code} {T : State} {locs : List Loc} {cells slots : Nat} (X : Stand p l e R s m args below meth c T locs cells slots) (hexec : p.tables.exec = Jvm.exec) {own C : String} {index : Nat} (hown : s.vm.findClass own = some m.cls) (hlink : (Cond.classLink own index C).before args s = true) {a : Addr} (hE : Exact C a T)
    {g : JFrame} (hg : g.method = m) {rest : List Value} (hstack : g.stack = .ref a :: rest) (hdg : decode c.code g.pc = .ok (.checkcast index, 3)) :
    ∃ T', Stand p l e R s m args below meth c T' locs cells slots ∧ T'.heap = T.heap ∧ ∀ target, Steps p.tables e below (T'.setTop { g with pc := g.pc + 3, stack := .ref a :: rest }) target → Steps p.tables e below (T.setTop g) target := by
  obtain ⟨cB, h1, D, h2, h3, h4⟩ := hE
  have h1' : s.vm.findClass C = some cB := by rw [← X.warmed.alike.findClass]; exact h1
  obtain ⟨vm', X', st⟩ := X.checkcastYes hexec hown hlink h2 h4 h1' (by rw [h3]; exact Jvm.Free.SB.assignable_self _ _) hg hstack hdg
  exact ⟨_, X', rfl, fun t h => st t (by rw [← hstack] at h; exact h)⟩
namespace SEq
def yN : MethodName := ⟨"java/lang/String", "equals", "(Ljava/lang/Object;)Z"⟩
abbrev yB : ByteArray := jdk_42_method_66_code
theorem d0 : decode yB 0 = .ok (.aload_n 0, 1) := by decide +kernel
theorem d1 : decode yB 1 = .ok (.aload_n 1, 1) := by decide +kernel
theorem d2 : decode yB 2 = .ok (.if_acmp (.ne) 5, 3) := by decide +kernel
theorem d5 : decode yB 5 = .ok (.iconst 1, 1) := by decide +kernel
theorem d6 : decode yB 6 = .ok (.ireturn, 1) := by decide +kernel
theorem d7 : decode yB 7 = .ok (.aload_n 1, 1) := by decide +kernel
theorem d8 : decode yB 8 = .ok (.instanceof 10, 3) := by decide +kernel
theorem d11 : decode yB 11 = .ok (.ifCond (.eq) 43, 3) := by decide +kernel
theorem d14 : decode yB 14 = .ok (.aload_n 1, 1) := by decide +kernel
theorem d15 : decode yB 15 = .ok (.checkcast 10, 3) := by decide +kernel
theorem d18 : decode yB 18 = .ok (.astore_n 2, 1) := by decide +kernel
theorem d19 : decode yB 19 = .ok (.getstatic 38, 3) := by decide +kernel
theorem d22 : decode yB 22 = .ok (.ifCond (.eq) 14, 3) := by decide +kernel
theorem d25 : decode yB 25 = .ok (.aload_n 0, 1) := by decide +kernel
theorem d26 : decode yB 26 = .ok (.getfield 15, 3) := by decide +kernel
theorem d29 : decode yB 29 = .ok (.aload_n 2, 1) := by decide +kernel
theorem d30 : decode yB 30 = .ok (.getfield 15, 3) := by decide +kernel
theorem d33 : decode yB 33 = .ok (.if_icmp (.ne) 21, 3) := by decide +kernel
theorem d36 : decode yB 36 = .ok (.aload_n 0, 1) := by decide +kernel
theorem d37 : decode yB 37 = .ok (.getfield 9, 3) := by decide +kernel
theorem d40 : decode yB 40 = .ok (.aload_n 2, 1) := by decide +kernel
theorem d41 : decode yB 41 = .ok (.getfield 9, 3) := by decide +kernel
theorem d44 : decode yB 44 = .ok (.invokestatic 541, 3) := by decide +kernel
theorem d47 : decode yB 47 = .ok (.ifCond (.eq) 7, 3) := by decide +kernel
theorem d50 : decode yB 50 = .ok (.iconst 1, 1) := by decide +kernel
theorem d51 : decode yB 51 = .ok (.goto 4, 3) := by decide +kernel
theorem d54 : decode yB 54 = .ok (.iconst 0, 1) := by decide +kernel
theorem d55 : decode yB 55 = .ok (.ireturn, 1) := by decide +kernel
def site : List Cond := [.classLink "java/lang/String" 10 "java/lang/String", .fieldLink "java/lang/String" 38 "java/lang/String" "COMPACT_STRINGS" "Z", .fieldLink "java/lang/String" 15 "java/lang/String" "coder" "B", .fieldLink "java/lang/String" 9 "java/lang/String" "value" "[B", LEq.tab] ++ staticW "java/lang/String" 541 LEq.yN
def tab : Cond := tabOf yN yB 3 (some .boolean) site
def P (x t : Addr) (V : Cell) (cd : Int32) (n : Nat) (f : Nat → Int32) (y t' : Addr) (V' : Cell) (cd' : Int32) (k : Nat) (g : Nat → Int32) (z : Int32) (args : Array Value) (s : State) : Prop := args = #[.ref x, .ref y] ∧ Txt x t V cd n f s ∧ Txt y t' V' cd' k g s ∧ StaticIs s "java/lang/String" "COMPACT_STRINGS" "Z" (.int z) ∧ ¬ z = 0
theorem law (l : Launch) (x t : Addr) (V : Cell) (cd : Int32) (n : Nat) (f : Nat → Int32) (y t' : Addr) (V' : Cell) (cd' : Int32) (k : Nat) (g : Nat → Int32) (z : Int32) : Law l yN 2 1 1 14 yB 3 (some .boolean) site (P x t V cd n f y t' V' cd' k g z) (Says01 (SameT n f k g)) [] 0 0 := by
  refine Law.of_walk (plainFor_of_name (by decide +kernel)) (by decide +kernel) (by decide +kernel) (by decide) (fun _ _ h => by rw [h.1]; rfl) (fun _ U U' hal hh h => ⟨h.1, h.2.1.mv hal hh, h.2.2.1.mv hal hh, h.2.2.2.1.there hal hh, h.2.2.2.2⟩) (fun r U U' V V' h1 hal h2 h => Says01.mv r U U' V V' h1 hal h2 h) ?_
  intro p e s m args below meth c s₁ X0 hexec hbytes hml hret hlk hnm hown hh0 W hP
  obtain ⟨rfl, hx, hy, s1, hz⟩ := hP
  have c1 : Steps p.tables e below (s₁.setTop (entryFrame m #[.ref x, .ref y] 3)) (s₁.setTop (mkF m 2 #[.val (.ref x), .val (.ref y), .unset] [.ref y, .ref x])) := Steps.trans (entry rfl) (by
    show Steps p.tables e below (s₁.setTop (mkF m 0 #[.val (.ref x), .val (.ref y), .unset] [])) _
    refine XS.aloadN X0.here hexec rfl (hb hbytes d0) rfl rfl ?_
    refine XS.aloadN X0.here hexec rfl (hb hbytes d1) rfl rfl ?_
    exact Steps.refl _)
  by_cases hxy : x = y
  · have c2 : Steps p.tables e below (s₁.setTop (entryFrame m #[.ref x, .ref y] 3)) (s₁.setTop (mkF m 6 #[.val (.ref x), .val (.ref y), .unset] [.int 1])) := c1.trans (by
      refine acmpNo X0.here hexec rfl (hb hbytes d2) rfl rfl rfl (by simp [acmp, hxy]) ?_
      refine iconstV X0.here hexec rfl 1 (hb hbytes d5) (by decide) ?_
      exact Steps.refl _)
    subst hxy
    have ec : cd = cd' := by
      obtain ⟨D, fd, a1, a2, a3⟩ := hx.2.2.1
      obtain ⟨D', fd', b1, b2, b3⟩ := hy.2.2.1
      cases a1.symm.trans b1
      obtain ⟨q1, q2, q3, q4⟩ := a2.1
      obtain ⟨r1, r2, r3, r4⟩ := b2.1
      cases q4.symm.trans r4
      cases a3.symm.trans b3; rfl
    have et : t = t' := by
      obtain ⟨D, fd, a1, a2, a3⟩ := hx.2.1
      obtain ⟨D', fd', b1, b2, b3⟩ := hy.2.1
      cases a1.symm.trans b1
      obtain ⟨q1, q2, q3, q4⟩ := a2.1
      obtain ⟨r1, r2, r3, r4⟩ := b2.1
      cases q4.symm.trans r4
      cases a3.symm.trans b3; rfl
    subst ec et
    have ev : V = V' := by cases hx.2.2.2.1.1.symm.trans hy.2.2.2.1.1; rfl
    subst ev
    have hs : SameT n f k g := (Cod.eqv hx.2.2.2.2.1 hy.2.2.2.2.1 hx.2.2.2.2.2 hy.2.2.2.2.2).mp ⟨rfl, fun _ _ => rfl⟩
    exact ⟨s₁, some (.int 1), _, _, _, X0, rfl, rfl, rfl, (fun h => by cases h), ⟨1, rfl, hh0, Or.inl ⟨rfl, hs⟩⟩, fun fs hl => c2.trans (X0.ireturnOut hexec hret rfl (Or.inr (Or.inl rfl)) (hb hbytes d6) hl)⟩
  · have c2 : Steps p.tables e below (s₁.setTop (entryFrame m #[.ref x, .ref y] 3)) (s₁.setTop (mkF m 8 #[.val (.ref x), .val (.ref y), .unset] [.ref y])) := c1.trans (by
      refine acmpYes X0.here hexec rfl (pc0 := 2) rfl (hb hbytes d2) rfl rfl rfl (by simp [acmp, hxy]) (by decide) rfl ?_
      refine XS.aloadN X0.here hexec rfl (hb hbytes d7) rfl rfl ?_
      exact Steps.refl _)
    obtain ⟨T3, X3, q3, st3⟩ := cinst X0 hexec hown (wk W (.classLink "java/lang/String" 10 "java/lang/String")) (hy.mv X0.warmed.alike hh0).1 (g := (mkF m 8 #[.val (.ref x), .val (.ref y), .unset] [.ref y])) rfl (rest := []) rfl (hb hbytes d8)
    have hh3 := q3.trans hh0
    have c4 : Steps p.tables e below (s₁.setTop (entryFrame m #[.ref x, .ref y] 3)) (T3.setTop (mkF m 15 #[.val (.ref x), .val (.ref y), .unset] [.ref y])) := (c2.trans (st3 _ (Steps.refl _))).trans (by
      refine XS.ifNo X3.here hexec rfl (hb hbytes d11) rfl (i0_eq_f (by decide)) ?_
      refine XS.aloadN X3.here hexec rfl (hb hbytes d14) rfl rfl ?_
      exact Steps.refl _)
    obtain ⟨T5, X5, q5, st5⟩ := cself X3 hexec hown (wk W (.classLink "java/lang/String" 10 "java/lang/String")) (hy.mv X3.warmed.alike hh3).1 (g := (mkF m 15 #[.val (.ref x), .val (.ref y), .unset] [.ref y])) rfl (rest := []) rfl (hb hbytes d15)
    have hh5 := q5.trans hh3
    have c6 : Steps p.tables e below (s₁.setTop (entryFrame m #[.ref x, .ref y] 3)) (T5.setTop (mkF m 19 #[.val (.ref x), .val (.ref y), .val (.ref y)] [])) := (c4.trans (st5 _ (Steps.refl _))).trans (by
      refine XS.astoreN X5.here hexec rfl (hb hbytes d18) rfl rfl rfl ?_
      exact Steps.refl _)
    obtain ⟨T7, X7, q7, st7⟩ := X5.sget hexec hown (wk W (.fieldLink "java/lang/String" 38 "java/lang/String" "COMPACT_STRINGS" "Z")) s1 (fun _ _ h => by rw [hh5]; exact h) (g := (mkF m 19 #[.val (.ref x), .val (.ref y), .val (.ref y)] [])) rfl (hb hbytes d19)
    have hh7 := q7.trans hh5
    have c8 : Steps p.tables e below (s₁.setTop (entryFrame m #[.ref x, .ref y] 3)) (T7.setTop (mkF m 26 #[.val (.ref x), .val (.ref y), .val (.ref y)] [.ref x])) := (c6.trans (st7 _ (Steps.refl _))).trans (by
      refine XS.ifNo X7.here hexec rfl (hb hbytes d22) rfl (i0_eq_f hz) ?_
      refine XS.aloadN X7.here hexec rfl (hb hbytes d25) rfl rfl ?_
      exact Steps.refl _)
    obtain ⟨T9, X9, q9, st9⟩ := X7.hget hexec hown (wk W (.fieldLink "java/lang/String" 15 "java/lang/String" "coder" "B")) (hx.mv X7.warmed.alike hh7).2.2.1 (g := (mkF m 26 #[.val (.ref x), .val (.ref y), .val (.ref y)] [.ref x])) rfl (rest := []) rfl (hb hbytes d26)
    have hh9 := q9.trans hh7
    have c10 : Steps p.tables e below (s₁.setTop (entryFrame m #[.ref x, .ref y] 3)) (T9.setTop (mkF m 30 #[.val (.ref x), .val (.ref y), .val (.ref y)] [.ref y, .int cd])) := (c8.trans (st9 _ (Steps.refl _))).trans (by
      refine XS.aloadN X9.here hexec rfl (hb hbytes d29) rfl rfl ?_
      exact Steps.refl _)
    obtain ⟨T11, X11, q11, st11⟩ := X9.hget hexec hown (wk W (.fieldLink "java/lang/String" 15 "java/lang/String" "coder" "B")) (hy.mv X9.warmed.alike hh9).2.2.1 (g := (mkF m 30 #[.val (.ref x), .val (.ref y), .val (.ref y)] [.ref y, .int cd])) rfl (rest := [.int cd]) rfl (hb hbytes d30)
    have hh11 := q11.trans hh9
    have c12 : Steps p.tables e below (s₁.setTop (entryFrame m #[.ref x, .ref y] 3)) (T11.setTop (mkF m 33 #[.val (.ref x), .val (.ref y), .val (.ref y)] [.int cd', .int cd])) := c10.trans (st11 _ (Steps.refl _))
    by_cases hcd : cd = cd'
    · subst hcd
      have c13 : Steps p.tables e below (s₁.setTop (entryFrame m #[.ref x, .ref y] 3)) (T11.setTop (mkF m 37 #[.val (.ref x), .val (.ref y), .val (.ref y)] [.ref x])) := c12.trans (by
        refine XS.icmpNo X11.here hexec rfl (hb hbytes d33) rfl (ii_ne_f rfl) ?_
        refine XS.aloadN X11.here hexec rfl (hb hbytes d36) rfl rfl ?_
        exact Steps.refl _)
      obtain ⟨T14, X14, q14, st14⟩ := X11.hget hexec hown (wk W (.fieldLink "java/lang/String" 9 "java/lang/String" "value" "[B")) (hx.mv X11.warmed.alike hh11).2.1 (g := (mkF m 37 #[.val (.ref x), .val (.ref y), .val (.ref y)] [.ref x])) rfl (rest := []) rfl (hb hbytes d37)
      have hh14 := q14.trans hh11
      have c15 : Steps p.tables e below (s₁.setTop (entryFrame m #[.ref x, .ref y] 3)) (T14.setTop (mkF m 41 #[.val (.ref x), .val (.ref y), .val (.ref y)] [.ref y, .ref t])) := (c13.trans (st14 _ (Steps.refl _))).trans (by
        refine XS.aloadN X14.here hexec rfl (hb hbytes d40) rfl rfl ?_
        exact Steps.refl _)
      obtain ⟨T16, X16, q16, st16⟩ := X14.hget hexec hown (wk W (.fieldLink "java/lang/String" 9 "java/lang/String" "value" "[B")) (hy.mv X14.warmed.alike hh14).2.1 (g := (mkF m 41 #[.val (.ref x), .val (.ref y), .val (.ref y)] [.ref y, .ref t])) rfl (rest := [.ref t]) rfl (hb hbytes d41)
      have hh16 := q16.trans hh14
      have c17 : Steps p.tables e below (s₁.setTop (entryFrame m #[.ref x, .ref y] 3)) (T16.setTop (mkF m 44 #[.val (.ref x), .val (.ref y), .val (.ref y)] [.ref t', .ref t])) := c15.trans (st16 _ (Steps.refl _))
      obtain ⟨v18, T18, X18, E18, g18⟩ := X16.callS hexec (LEq.law l t V t' V') hown (wks W (staticW "java/lang/String" 541 LEq.yN)) (wk W LEq.tab) (W := 0) (Nat.le_of_ble_eq_true rfl) (Nat.le_of_ble_eq_true rfl) (Nat.le_refl _) (Nat.le_refl _) (g := (mkF m 44 #[.val (.ref x), .val (.ref y), .val (.ref y)] [.ref t', .ref t])) rfl (by rw [hml]; rfl) c17 (argsL := [.ref t, .ref t']) (rest := []) rfl rfl (by show 2 * 0 + 0 ≤ _; decide) (hb hbytes d44) (⟨rfl, hx.2.2.2.1.mv X16.warmed.alike hh16, hx.2.2.2.2.1.ty, hy.2.2.2.1.mv X16.warmed.alike hh16, hy.2.2.2.2.1.ty⟩)
      obtain ⟨v, rfl, q18, hv⟩ := E18
      have iff := Cod.eqv hx.2.2.2.2.1 hy.2.2.2.2.1 hx.2.2.2.2.2 hy.2.2.2.2.2
      rcases hv with ⟨rfl, he⟩ | ⟨rfl, he⟩
      · have c19 : Steps p.tables e below (s₁.setTop (entryFrame m #[.ref x, .ref y] 3)) (T18.setTop (mkF m 55 #[.val (.ref x), .val (.ref y), .val (.ref y)] [.int 1])) := Steps.trans g18 (by
          refine XS.ifNo X18.here hexec rfl (hb hbytes d47) rfl (i0_eq_f (by decide)) ?_
          refine iconstV X18.here hexec rfl 1 (hb hbytes d50) (by decide) ?_
          refine XS.goto X18.here hexec rfl (pc0 := 51) rfl (hb hbytes d51) (by decide) rfl ?_
          exact Steps.refl _)
        exact ⟨T18, some (.int 1), _, _, _, X18, rfl, rfl, rfl, (fun h => by cases h), ⟨1, rfl, q18.trans hh16, Or.inl ⟨rfl, iff.mp he⟩⟩, fun fs hl => c19.trans (X18.ireturnOut hexec hret rfl (Or.inr (Or.inl rfl)) (hb hbytes d55) hl)⟩
      · have c19 : Steps p.tables e below (s₁.setTop (entryFrame m #[.ref x, .ref y] 3)) (T18.setTop (mkF m 55 #[.val (.ref x), .val (.ref y), .val (.ref y)] [.int 0])) := Steps.trans g18 (by
          refine XS.ifYes X18.here hexec rfl (pc0 := 47) rfl (hb hbytes d47) rfl (i0_eq_t rfl) (by decide) rfl ?_
          refine iconstV X18.here hexec rfl 0 (hb hbytes d54) (by decide) ?_
          exact Steps.refl _)
        exact ⟨T18, some (.int 0), _, _, _, X18, rfl, rfl, rfl, (fun h => by cases h), ⟨0, rfl, q18.trans hh16, Or.inr ⟨rfl, fun q => he (iff.mpr q)⟩⟩, fun fs hl => c19.trans (X18.ireturnOut hexec hret rfl (Or.inr (Or.inl rfl)) (hb hbytes d55) hl)⟩
    · have c13 : Steps p.tables e below (s₁.setTop (entryFrame m #[.ref x, .ref y] 3)) (T11.setTop (mkF m 55 #[.val (.ref x), .val (.ref y), .val (.ref y)] [.int 0])) := c12.trans (by
        refine XS.icmpYes X11.here hexec rfl (pc0 := 33) rfl (hb hbytes d33) rfl (ii_ne_t hcd) (by decide) rfl ?_
        refine iconstV X11.here hexec rfl 0 (hb hbytes d54) (by decide) ?_
        exact Steps.refl _)
      exact ⟨T11, some (.int 0), _, _, _, X11, rfl, rfl, rfl, (fun h => by cases h), ⟨0, rfl, hh11, Or.inr ⟨rfl, Cod.dif hx.2.2.2.2.1 hy.2.2.2.2.1 hcd⟩⟩, fun fs hl => c13.trans (X11.ireturnOut hexec hret rfl (Or.inr (Or.inl rfl)) (hb hbytes d55) hl)⟩
theorem pays {l : Launch} {R : Room} {p : Program} {e : Env} {below : List Frame} {s : State} {sargs : Array Value} {len W : Nat} (x t : Addr) (V : Cell) (cd : Int32) (n : Nat) (f : Nat → Int32) (y t' : Addr) (V' : Cell) (cd' : Int32) (k : Nat) (g : Nat → Int32) (z : Int32) (htab : tab.before sargs s = true) (hfr : 2 ≤ R.frames) (hlo : W + 28 ≤ R.locals) :
    Back l R p e below s sargs yN len W (fun A₁ a₁ => A₁.cells + 0 ≤ R.cells ∧ A₁.slots + 0 ≤ R.slots ∧ P x t V cd n f y t' V' cd' k g z a₁ A₁.U) (fun A₁ _ v₁ B₁ => Says01 (SameT n f k g) v₁ A₁.U B₁.U ∧ B₁.locs = A₁.locs ++ [] ∧ B₁.cells = A₁.cells + 0 ∧ B₁.slots = A₁.slots + 0) :=
  (law l x t V cd n f y t' V' cd' k g z).pays htab hfr (by omega)
end SEq
end StrChars
namespace StrChars.Road
open Jvm Sem ClassFile Op Lib Jvm.Stand Jvm.Free Jvm.Free.XT
open Jvm.Lib.Cold (StaticIs)
abbrev wordsEq : List Jvm.Cond := [.code SEq.yN SEq.yB 3 (some .boolean), .initialized ST, .classLink ST 10 ST, .fieldLink ST 38 ST "COMPACT_STRINGS" "Z", .fieldLink ST 15 ST "coder" "B", .fieldLink ST 9 ST "value" "[B", .methodLink ST 541 LEq.yN, .static LEq.yN, .code LEq.yN LEq.yB 3 (some .boolean), .initialized "java/lang/StringLatin1"]
theorem tabEq_of {a : Array Value} {s : State} (h : ∀ w ∈ wordsEq, w.before a s = true) : SEq.tab.before a s = true := by
  have hl : LEq.tab.before a s = true := unparts (wk h (.code LEq.yN LEq.yB 3 (some .boolean))) (wks h (.initialized LEq.yN.cls :: LEq.site))
  have q := consq hl h
  exact unparts (wk q (.code SEq.yN SEq.yB 3 (some .boolean))) (wks q (.initialized SEq.yN.cls :: SEq.site))
theorem movedEq {Z s : State} {a0 args : Array Value} (hZ : Z.Warmed39 s.vm) (hw : ∀ d ∈ wordsEq, d.before a0 Z = true) : ∀ d ∈ wordsEq, d.before args s = true := fun d hd => by
  have t : ∀ d ∈ wordsEq, (d.onTables && d.keepsFace) = true := by decide +kernel
  exact RoadKit.mv hZ (hw d hd) (t d hd)
theorem txt_of {Z U : State} {a0 : Array Value} {kI : Nat} (wi : (Jvm.Cond.instantiable ST kI).before a0 Z = true) (al : Z.vm.Alike U.vm) {x t : Addr} {kb : ClassId} {cs : List Int32} {cd N2 : Int32} {vs : List Value} (E : RoadKit.Exa Z U.heap x ST) (V : RoadKit.Fld Z U.heap x ST "value" "[B" (.ref t)) (C : RoadKit.Fld Z U.heap x ST "coder" "B" (.int cd)) (K : RoadKit.Arv Z U.heap t kb .byte N2 vs (.int 0)) (hc : CodA cs cd N2 vs) (hb : ∀ c ∈ cs, ¬ c < 0 ∧ ¬ (65535 : Int32) < c) (l2 : cs.length ≤ 4000) :
    ∃ A, Txt x t A cd cs.length (fun j => cs.getD j 0) U := by
  obtain ⟨A, K1, K2, K3, K4, K5, K6⟩ := K
  have hcod := hc.cod (by omega) K3 K5
  obtain ⟨D, fV, fC, hB, F1, F2, g1, g2, -, -⟩ := strObj wi al E V C
  exact ⟨A, ⟨_, hB.2.2.1, D, hB.1, rfl, by cases q : D.vm <;> first | rfl | exact absurd q (hB.2.1.2 _)⟩, Has.of hB F1 g1, Has.of hB F2 g2, ⟨K1.1, State.isArrayOf_alike al K1.2.1, K1.2.2, by rcases hcod with ⟨-, q, -⟩ | ⟨-, q, -⟩ <;> omega⟩, hcod, fun j hj => by
    have e : cs.getD j 0 = cs[j] := by simp [List.getD_eq_getElem?_getD, hj]
    show ¬ cs.getD j 0 < 0 ∧ ¬ 65535 < cs.getD j 0
    rw [e]; exact hb _ (List.getElem_mem _)⟩
theorem same_list (cs ds : List Int32) : SameT cs.length (fun j => cs.getD j 0) ds.length (fun j => ds.getD j 0) ↔ cs = ds := by
  constructor
  · rintro ⟨e, q⟩
    refine List.ext_getElem e fun j h1 h2 => ?_
    have := q j h1
    simpa [List.getD_eq_getElem?_getD, h1, h2] using this
  · rintro rfl
    exact ⟨rfl, fun _ _ => rfl⟩
theorem eqW {p : Program} {l : Launch} {e : Env} {R : Room} {s : State} {args : Array Value} {below : List Frame} {len W : Nat} {Z : State} {a0 : Array Value} {h : Heap} (hZ : Z.Warmed39 s.vm) (hw : ∀ d ∈ wordsEq, d.before a0 Z = true) {kI : Nat} (wi : (Jvm.Cond.instantiable ST kI).before a0 Z = true)
    {x t : Addr} {kb : ClassId} {cs : List Int32} {cd N2 : Int32} {vs : List Value} (E : RoadKit.Exa Z h x ST) (V : RoadKit.Fld Z h x ST "value" "[B" (.ref t)) (C : RoadKit.Fld Z h x ST "coder" "B" (.int cd)) (K : RoadKit.Arv Z h t kb .byte N2 vs (.int 0)) (hc : CodA cs cd N2 vs) (hb : ∀ c ∈ cs, ¬ c < 0 ∧ ¬ (65535 : Int32) < c) (l2 : cs.length ≤ 4000)
    {y t' : Addr} {kb' : ClassId} {ds : List Int32} {cd' N2' : Int32} {vs' : List Value} (E' : RoadKit.Exa Z h y ST) (V' : RoadKit.Fld Z h y ST "value" "[B" (.ref t')) (C' : RoadKit.Fld Z h y ST "coder" "B" (.int cd')) (K' : RoadKit.Arv Z h t' kb' .byte N2' vs' (.int 0)) (hc' : CodA ds cd' N2' vs') (hb' : ∀ c ∈ ds, ¬ c < 0 ∧ ¬ (65535 : Int32) < c) (l2' : ds.length ≤ 4000)
    {z : Int32} (S : RoadKit.Sta Z h ST "COMPACT_STRINGS" "Z" (.int z)) (hz : ¬ z = 0) (hfr : 2 ≤ R.frames) (hlo : W + 28 ≤ R.locals) :
    Back l R p e below s args (⟨"java/lang/String", "equals", "(Ljava/lang/Object;)Z"⟩ : MethodName) len W (fun P a => a = #[.ref x, .ref y] ∧ P.U.heap = h ∧ P.cells + 0 ≤ R.cells ∧ P.slots + 0 ≤ R.slots)
      (fun P _ v B => ∃ L, (((v = some (.int 1) ∧ cs = ds) ∨ (v = some (.int 0) ∧ ¬ cs = ds)) ∧ L = [] ∧ B.U.heap = h) ∧ B.locs = P.locs ++ L ∧ B.cells = P.cells + 0 ∧ B.slots = P.slots + 0) := by
  intro m meth c P g ig mk a X hg hsize hdg hW hn hp'
  obtain ⟨rfl, rfl, r1, r2⟩ := hp'
  have al : Z.vm.Alike P.U.vm := hZ.alike.trans X.warmed.alike
  obtain ⟨A, hx⟩ := txt_of wi al E V C K hc hb l2
  obtain ⟨A', hy⟩ := txt_of wi al E' V' C' K' hc' hb' l2'
  obtain ⟨v, B, X', ⟨⟨w, hv, hh, hq⟩, hl, hk, hs⟩, st⟩ := SEq.pays x t A cd cs.length (fun j => cs.getD j 0) y t' A' cd' ds.length (fun j => ds.getD j 0) z (tabEq_of (movedEq hZ hw)) hfr hlo m meth c P g ig mk _ X hg hsize hdg hW hn ⟨r1, r2, rfl, hx, hy, sta_is al S, hz⟩
  refine ⟨v, B, X', ⟨[], ⟨?_, rfl, hh⟩, hl, hk, hs⟩, st⟩
  rcases hq with ⟨rfl, q⟩ | ⟨rfl, q⟩
  · exact Or.inl ⟨hv, (same_list cs ds).mp q⟩
  · exact Or.inr ⟨hv, fun e => q ((same_list cs ds).mpr e)⟩
end StrChars.Road
end Jvm.Pilot.@@N@@
namespace Jvm.Pilot.@@N@@
open Jvm Jvm.ClassFile Sem Op Lib Jvm.Free Jvm.Stand Jvm.LawKit Jvm.RoadKit Bundle Jvm.Pilot.@@N@@.Jvm.D
theorem own_selP {s : State} {args args' : Array Value} {y x z : MethodName} {C : String} (h : (Jvm.Cond.selects C x z).before args' s = true) (hz : z.cls = y.cls) (hp : s.PrivateAt y) (hi : (Jvm.Cond.instanceMethod y).before args s = true) (hy : y.cls ≠ "java/lang/invoke/MethodHandle" ∧ y.cls ≠ "java/lang/invoke/VarHandle") : (Jvm.Cond.selects y.cls y y).before args s = true := by
  obtain ⟨c2, r2, m2, -, -, q3, -, kP, hkP, hkPi⟩ := Cond.selects_spec h
  exact Jvm.Stand.selects_self_of_private (hz ▸ findClass_of_methodNamed q3) hkP hkPi hp hi hy
theorem own_sameP {s : State} {args : Array Value} {y x z : MethodName} {C : String} (h : (Jvm.Cond.selects C x z).before args s = true) (hz : z.cls = y.cls) (hi : (Jvm.Cond.instanceMethod y).before args s = true) (hy : y.cls ≠ "java/lang/invoke/MethodHandle" ∧ y.cls ≠ "java/lang/invoke/VarHandle") : (Jvm.Cond.sameMethod y.cls y.cls y.name y.desc).before args s = true := by
  obtain ⟨c2, r2, m2, -, -, q3, -, kP, hkP, hkPi⟩ := Cond.selects_spec h
  obtain ⟨mk, methM, hnamed, hmethM, -, -⟩ := Cond.instanceMethod_spec hi
  have hf := State.methodFound?_of_named hnamed hy
  have hc := findClass_of_methodNamed hnamed
  have hc2 : s.vm.findClass y.cls = some m2.cls := hz ▸ findClass_of_methodNamed q3
  have e : mk.cls = m2.cls := Option.some.inj (hc.symm.trans hc2)
  simp [Cond.before, Cond.holds, Cond.value, hc, hf, hnamed, e, hkP, hkPi]
theorem own_nf {s : State} {args : Array Value} {y x z : MethodName} {C : String} (h : (Jvm.Cond.selects C x z).before args s = true) (hz : z.cls = y.cls) : NotFace s y := fun r0 h0 => by
  obtain ⟨c2, r2, m2, -, -, q3, -, kP, hkP, hkPi⟩ := Cond.selects_spec h
  have hc2 : s.vm.findClass y.cls = some m2.cls := hz ▸ findClass_of_methodNamed q3
  have e : r0.cls = m2.cls := Option.some.inj ((findClass_of_methodNamed h0).symm.trans hc2)
  exact ⟨kP, by rw [e]; exact hkP, hkPi⟩
set_option maxRecDepth 65536
set_option maxHeartbeats 40000000
abbrev HW (a0 : Array Value) (Z : State) : Prop := ∀ d ∈ tables_1, d.before a0 Z = true
abbrev SP (pg : Program) (ev : Env) (below : List Frame) (a b : State) : Prop := Steps pg.tables ev below a b
abbrev rr (a b c d : Nat) : Room := { frames := a, cells := b, slots := c, locals := d }
theorem gm {d : Cond} (i : Nat) (h : tables_1[i]? = some d) : d ∈ tables_1 := List.mem_of_getElem? h
abbrev MF (la : Launch) (Z : State) (hE : Heap) (y : MethodName) (c : ByteArray) (ml : Nat) (r : Option FieldType) (ws : List Cond) (rm : Room) (A : Array Value) (Q : Option Value → Heap → List Loc → Prop) : Prop := MetFree la y (head1 (Cond.code y c ml r :: ws) rm) (fun aa UU => aa = A ∧ Z.Warmed39 UU.vm ∧ UU.heap = hE) (fun _ _ _ _ _ => True) (fun _ UU oo UV => ∃ vv LL, oo = .returned vv ∧ Q vv UV.heap LL ∧ FrameEnd UU oo UV LL rm.cells rm.slots)
abbrev jc0 := jdk_42_method_152_code
abbrev jc1 := jdk_42_method_147_code
abbrev jc2 := jdk_65_method_121_code
abbrev jc3 := jdk_65_method_131_code
abbrev jc4 := jdk_65_method_133_code
abbrev jc5 := jdk_65_method_132_code
abbrev jc6 := jdk_42_method_150_code
abbrev jc7 := jdk_42_method_151_code
abbrev jc8 := jdk_42_method_139_code
abbrev jc9 := jdk_42_method_126_code
abbrev jc10 := jdk_42_method_154_code
abbrev jc11 := jdk_42_method_54_code
abbrev jc12 := jdk_68_method_71_code
abbrev jc13 := jdk_68_method_73_code
abbrev jc14 := jdk_29_method_65_code
abbrev jc15 := jdk_48_method_27_code
abbrev jc16 := jdk_68_method_10_code
abbrev jc17 := jdk_29_method_69_code
abbrev jc18 := jdk_68_method_22_code
abbrev jc19 := jdk_68_method_64_code
abbrev jc20 := jdk_67_method_93_code
abbrev jc21 := jdk_68_method_68_code
abbrev jc22 := jdk_42_method_53_code
abbrev jc23 := jdk_67_method_42_code
abbrev jc24 := jdk_43_method_46_code
abbrev jc25 := jdk_31_method_11_code
abbrev jc26 := jdk_42_method_55_code
abbrev jc27 := jdk_43_method_24_code
abbrev jc28 := jdk_42_method_84_code
abbrev jc29 := jdk_42_method_97_code
abbrev jc30 := jdk_68_method_2_code
abbrev jc31 := jdk_67_method_1_code
abbrev jc32 := jdk_68_method_9_code
abbrev jc33 := jdk_67_method_7_code
abbrev jc34 := jdk_68_method_6_code
abbrev jc35 := jdk_43_method_3_code
abbrev jc36 := jdk_30_method_1_code
abbrev jc37 := prog_9_method_9_code
abbrev jc38 := prog_9_method_1_code
abbrev jc39 := prog_9_method_8_code
abbrev jc40 := prog_9_method_6_code
abbrev jc41 := method_2_code
abbrev c0_ : String := "com/example/beanloft/beanloft/naming/GlobalName"
abbrev c1_ : String := "java/lang/String"
abbrev c2_ : String := "java/lang/AbstractStringBuilder"
abbrev c3_ : String := "java/lang/StringBuilder"
abbrev c4_ : String := "Ljava/lang/String;"
abbrev c5_ : String := "com/example/beanloft/beanloft/naming/GlobalNameInModulePinLaw"
abbrev c6_ : String := "COMPACT_STRINGS"
abbrev c7_ : String := "()Ljava/lang/String;"
abbrev c8_ : String := "(Ljava/lang/String;Ljava/lang/String;Ljava/lang/String;Ljava/lang/String;)V"
abbrev c9_ : String := "java/lang/StringLatin1"
abbrev c10_ : String := "java/util/Arrays"
abbrev c11_ : String := "(Ljava/lang/String;)Ljava/lang/StringBuilder;"
abbrev c12_ : String := "jdk/internal/util/ArraysSupport"
abbrev c13_ : String := "(Ljava/lang/Object;Ljava/lang/String;)Ljava/lang/Object;"
abbrev c14_ : String := "(Ljava/lang/Object;ILjava/lang/Object;II)V"
abbrev c15_ : String := "java/lang/Object"
abbrev c16_ : String := "(Ljava/lang/String;)Ljava/lang/AbstractStringBuilder;"
abbrev c17_ : String := "(Ljava/lang/CharSequence;)Z"
abbrev c18_ : String := "(Ljava/lang/AbstractStringBuilder;Ljava/lang/Void;)V"
abbrev c19_ : String := "moduleName"
abbrev c20_ : String := "java/lang/CharSequence"
abbrev c21_ : String := "ensureCapacityInternal"
abbrev c22_ : String := "(Ljava/lang/String;)I"
abbrev c23_ : String := "java/lang/Math"
abbrev c24_ : String := "()Ljava/lang/Object;"
abbrev c25_ : String := "(Ljava/lang/Object;)Z"
abbrev c26_ : String := "java/lang/Record"
abbrev mn0 : MethodName := ⟨"java/lang/String", "coder", "()B"⟩
abbrev mn1 : MethodName := ⟨"java/lang/String", "length", "()I"⟩
abbrev mn2 : MethodName := ⟨"java/lang/AbstractStringBuilder", "<init>", "(I)V"⟩
abbrev mn3 : MethodName := ⟨"java/lang/StringBuilder", "<init>", "()V"⟩
abbrev mn4 : MethodName := ⟨"java/lang/AbstractStringBuilder", "inflateIfNeededFor", "(Ljava/lang/String;)V"⟩
abbrev mn5 : MethodName := ⟨"java/lang/String", "getBytes", "([BIB)V"⟩
abbrev mn6 : MethodName := ⟨"java/lang/AbstractStringBuilder", "putStringAt", "(ILjava/lang/String;)V"⟩
abbrev mn7 : MethodName := ⟨"java/lang/AbstractStringBuilder", "ensureCapacityInternal", "(I)V"⟩
abbrev mn8 : MethodName := ⟨"java/lang/Math", "max", "(II)I"⟩
abbrev mn9 : MethodName := ⟨"jdk/internal/util/ArraysSupport", "newLength", "(III)I"⟩
abbrev mn10 : MethodName := ⟨"java/lang/AbstractStringBuilder", "newCapacity", "(I)I"⟩
abbrev mn11 : MethodName := ⟨"java/lang/Math", "min", "(II)I"⟩
abbrev mn12 : MethodName := ⟨"java/util/Arrays", "copyOf", "([BI)[B"⟩
abbrev mn13 : MethodName := ⟨"java/lang/AbstractStringBuilder", "append", "(Ljava/lang/String;)Ljava/lang/AbstractStringBuilder;"⟩
abbrev mn14 : MethodName := ⟨"java/lang/StringBuilder", "append", "(Ljava/lang/String;)Ljava/lang/StringBuilder;"⟩
abbrev mn15 : MethodName := ⟨"java/lang/AbstractStringBuilder", "getValue", "()[B"⟩
abbrev mn16 : MethodName := ⟨"java/lang/AbstractStringBuilder", "length", "()I"⟩
abbrev mn17 : MethodName := ⟨"java/lang/StringBuilder", "length", "()I"⟩
abbrev mn18 : MethodName := ⟨"java/lang/AbstractStringBuilder", "isLatin1", "()Z"⟩
abbrev mn19 : MethodName := ⟨"java/util/Arrays", "checkLength", "(II)V"⟩
abbrev mn20 : MethodName := ⟨"java/util/Arrays", "copyOfRangeByte", "([BII)[B"⟩
abbrev mn21 : MethodName := ⟨"java/util/Arrays", "copyOfRange", "([BII)[B"⟩
abbrev mn22 : MethodName := ⟨"java/lang/String", "<init>", "(Ljava/lang/AbstractStringBuilder;Ljava/lang/Void;)V"⟩
abbrev mn23 : MethodName := ⟨"java/lang/String", "<init>", "(Ljava/lang/StringBuilder;)V"⟩
abbrev mn24 : MethodName := ⟨"java/lang/StringBuilder", "toString", "()Ljava/lang/String;"⟩
abbrev mn25 : MethodName := ⟨"com/example/beanloft/beanloft/naming/GlobalNameInModulePinLaw", "seg", "(I)C"⟩
abbrev mn26 : MethodName := ⟨"java/lang/String", "<init>", "([BB)V"⟩
abbrev mn27 : MethodName := ⟨"java/lang/StringLatin1", "canEncode", "(C)Z"⟩
abbrev mn28 : MethodName := ⟨"java/lang/StringLatin1", "toBytes", "(C)[B"⟩
abbrev mn29 : MethodName := ⟨"java/lang/String", "valueOf", "(C)Ljava/lang/String;"⟩
abbrev mn30 : MethodName := ⟨"java/lang/Record", "<init>", "()V"⟩
abbrev mn31 : MethodName := ⟨"java/util/Objects", "requireNonNull", "(Ljava/lang/Object;Ljava/lang/String;)Ljava/lang/Object;"⟩
abbrev mn32 : MethodName := ⟨"java/lang/String", "toString", "()Ljava/lang/String;"⟩
abbrev mn33 : MethodName := ⟨"java/lang/String", "isLatin1", "()Z"⟩
abbrev mn34 : MethodName := ⟨"java/lang/String", "isEmpty", "()Z"⟩
abbrev mn35 : MethodName := ⟨"java/lang/StringLatin1", "indexOf", "([BI[BII)I"⟩
abbrev mn36 : MethodName := ⟨"java/lang/StringLatin1", "indexOf", "([B[B)I"⟩
abbrev mn37 : MethodName := ⟨"java/lang/String", "indexOf", "(Ljava/lang/String;)I"⟩
abbrev mn38 : MethodName := ⟨"java/lang/CharSequence", "toString", "()Ljava/lang/String;"⟩
abbrev mn39 : MethodName := ⟨"java/lang/String", "contains", "(Ljava/lang/CharSequence;)Z"⟩
abbrev mn40 : MethodName := ⟨"com/example/beanloft/beanloft/naming/GlobalName", "checkSegment", "(Ljava/lang/String;Ljava/lang/String;Ljava/lang/String;Ljava/lang/String;)V"⟩
abbrev mn41 : MethodName := ⟨"com/example/beanloft/beanloft/naming/GlobalName", "<init>", "(Ljava/lang/String;Ljava/lang/String;Ljava/lang/String;Ljava/lang/String;)V"⟩
abbrev mn42 : MethodName := ⟨"com/example/beanloft/beanloft/naming/GlobalName", "viewSuffix", "()Ljava/lang/String;"⟩
abbrev mn43 : MethodName := ⟨"com/example/beanloft/beanloft/naming/GlobalName", "inModule", "()Ljava/lang/String;"⟩
abbrev mn44 : MethodName := ⟨"java/lang/String", "<init>", "([C)V"⟩
abbrev mn45 : MethodName := ⟨"java/lang/String", "equals", "(Ljava/lang/Object;)Z"⟩
section
variable {a0 : Array Value} {Z : State}
theorem wd0 (hw : HW a0 Z) : (Cond.methodLink c5_ 7 ({ cls := c5_, name := "seg", desc := "(I)C" } : Jvm.MethodName)).before a0 Z = true := hw _ (gm 0 rfl)
theorem wd1 (hw : HW a0 Z) : (Cond.static ({ cls := c5_, name := "seg", desc := "(I)C" } : Jvm.MethodName)).before a0 Z = true := hw _ (gm 1 rfl)
theorem wd2 (hw : HW a0 Z) : (Cond.initialized c5_).before a0 Z = true := hw _ (gm 2 rfl)
theorem wd3 (hw : HW a0 Z) : (Cond.code ({ cls := c5_, name := "seg", desc := "(I)C" } : Jvm.MethodName) method_2_code 2 (Option.some FieldType.char)).before a0 Z = true := hw _ (gm 3 rfl)
theorem wd4 (hw : HW a0 Z) : (Cond.classLink c5_ 13 c1_).before a0 Z = true := hw _ (gm 4 rfl)
theorem wd5 (hw : HW a0 Z) : (Cond.instantiable c1_ 4).before a0 Z = true := hw _ (gm 5 rfl)
theorem wd6 (hw : HW a0 Z) : (Cond.initialized c1_).before a0 Z = true := hw _ (gm 6 rfl)
theorem wd7 (hw : HW a0 Z) : (Cond.arrayClass FieldType.char).before a0 Z = true := hw _ (gm 7 rfl)
theorem wd8 (hw : HW a0 Z) : (Cond.methodLink c5_ 15 ({ cls := c1_, name := "<init>", desc := "([C)V" } : Jvm.MethodName)).before a0 Z = true := hw _ (gm 8 rfl)
theorem wd9 (hw : HW a0 Z) : (Cond.instanceMethod ({ cls := c1_, name := "<init>", desc := "([C)V" } : Jvm.MethodName)).before a0 Z = true := hw _ (gm 9 rfl)
theorem wd10 (hw : HW a0 Z) : (Cond.code ({ cls := c1_, name := "<init>", desc := "([C)V" } : Jvm.MethodName) jdk_42_method_3_code 2 (Option.none : Option Jvm.ClassFile.FieldType)).before a0 Z = true := hw _ (gm 10 rfl)
theorem wd15 (hw : HW a0 Z) : (Cond.methodLink c1_ 1 ({ cls := c15_, name := "<init>", desc := "()V" } : Jvm.MethodName)).before a0 Z = true := hw _ (gm 15 rfl)
theorem wd16 (hw : HW a0 Z) : (Cond.instanceMethod ({ cls := c15_, name := "<init>", desc := "()V" } : Jvm.MethodName)).before a0 Z = true := hw _ (gm 16 rfl)
theorem wd17 (hw : HW a0 Z) : (Cond.code ({ cls := c15_, name := "<init>", desc := "()V" } : Jvm.MethodName) object_method_1_code 1 (Option.none : Option Jvm.ClassFile.FieldType)).before a0 Z = true := hw _ (gm 17 rfl)
theorem wd18 (hw : HW a0 Z) : (Cond.fieldLink c1_ 38 c1_ c6_ "Z").before a0 Z = true := hw _ (gm 18 rfl)
theorem wd23 (hw : HW a0 Z) : (Cond.arrayClass FieldType.byte).before a0 Z = true := hw _ (gm 23 rfl)
theorem wd30 (hw : HW a0 Z) : (Cond.fieldLink c1_ 15 c1_ "coder" "B").before a0 Z = true := hw _ (gm 30 rfl)
theorem wd31 (hw : HW a0 Z) : (Cond.laysFinal c1_ c1_ "coder" "B").before a0 Z = true := hw _ (gm 31 rfl)
theorem wd32 (hw : HW a0 Z) : (Cond.fieldLink c1_ 9 c1_ "value" "[B").before a0 Z = true := hw _ (gm 32 rfl)
theorem wd33 (hw : HW a0 Z) : (Cond.laysFinal c1_ c1_ "value" "[B").before a0 Z = true := hw _ (gm 33 rfl)
theorem wd34 (hw : HW a0 Z) : (Cond.methodLink c5_ 18 ({ cls := c1_, name := "valueOf", desc := "(C)Ljava/lang/String;" } : Jvm.MethodName)).before a0 Z = true := hw _ (gm 34 rfl)
theorem wd35 (hw : HW a0 Z) : (Cond.static ({ cls := c1_, name := "valueOf", desc := "(C)Ljava/lang/String;" } : Jvm.MethodName)).before a0 Z = true := hw _ (gm 35 rfl)
theorem wd36 (hw : HW a0 Z) : (Cond.code ({ cls := c1_, name := "valueOf", desc := "(C)Ljava/lang/String;" } : Jvm.MethodName) jdk_42_method_139_code 1 (Option.some (FieldType.object c1_))).before a0 Z = true := hw _ (gm 36 rfl)
theorem wd37 (hw : HW a0 Z) : (Cond.methodLink c1_ 1015 ({ cls := c9_, name := "canEncode", desc := "(C)Z" } : Jvm.MethodName)).before a0 Z = true := hw _ (gm 37 rfl)
theorem wd38 (hw : HW a0 Z) : (Cond.static ({ cls := c9_, name := "canEncode", desc := "(C)Z" } : Jvm.MethodName)).before a0 Z = true := hw _ (gm 38 rfl)
theorem wd39 (hw : HW a0 Z) : (Cond.initialized c9_).before a0 Z = true := hw _ (gm 39 rfl)
theorem wd40 (hw : HW a0 Z) : (Cond.code ({ cls := c9_, name := "canEncode", desc := "(C)Z" } : Jvm.MethodName) jdk_43_method_3_code 1 (Option.some FieldType.boolean)).before a0 Z = true := hw _ (gm 40 rfl)
theorem wd41 (hw : HW a0 Z) : (Cond.classLink c1_ 10 c1_).before a0 Z = true := hw _ (gm 41 rfl)
theorem wd42 (hw : HW a0 Z) : (Cond.methodLink c1_ 1018 ({ cls := c9_, name := "toBytes", desc := "(C)[B" } : Jvm.MethodName)).before a0 Z = true := hw _ (gm 42 rfl)
theorem wd43 (hw : HW a0 Z) : (Cond.static ({ cls := c9_, name := "toBytes", desc := "(C)[B" } : Jvm.MethodName)).before a0 Z = true := hw _ (gm 43 rfl)
theorem wd44 (hw : HW a0 Z) : (Cond.code ({ cls := c9_, name := "toBytes", desc := "(C)[B" } : Jvm.MethodName) jdk_43_method_46_code 1 (Option.some (FieldType.array FieldType.byte))).before a0 Z = true := hw _ (gm 44 rfl)
theorem wd45 (hw : HW a0 Z) : (Cond.methodLink c1_ 209 ({ cls := c1_, name := "<init>", desc := "([BB)V" } : Jvm.MethodName)).before a0 Z = true := hw _ (gm 45 rfl)
theorem wd46 (hw : HW a0 Z) : (Cond.instanceMethod ({ cls := c1_, name := "<init>", desc := "([BB)V" } : Jvm.MethodName)).before a0 Z = true := hw _ (gm 46 rfl)
theorem wd47 (hw : HW a0 Z) : (Cond.code ({ cls := c1_, name := "<init>", desc := "([BB)V" } : Jvm.MethodName) jdk_42_method_151_code 3 (Option.none : Option Jvm.ClassFile.FieldType)).before a0 Z = true := hw _ (gm 47 rfl)
theorem wd48 (hw : HW a0 Z) : (Cond.classLink c5_ 22 c0_).before a0 Z = true := hw _ (gm 48 rfl)
theorem wd49 (hw : HW a0 Z) : (Cond.instantiable c0_ 4).before a0 Z = true := hw _ (gm 49 rfl)
theorem wd50 (hw : HW a0 Z) : (Cond.initialized c0_).before a0 Z = true := hw _ (gm 50 rfl)
theorem wd51 (hw : HW a0 Z) : (Cond.methodLink c5_ 24 ({ cls := c0_, name := "<init>", desc := c8_ } : Jvm.MethodName)).before a0 Z = true := hw _ (gm 51 rfl)
theorem wd52 (hw : HW a0 Z) : (Cond.instanceMethod ({ cls := c0_, name := "<init>", desc := c8_ } : Jvm.MethodName)).before a0 Z = true := hw _ (gm 52 rfl)
theorem wd53 (hw : HW a0 Z) : (Cond.code ({ cls := c0_, name := "<init>", desc := c8_ } : Jvm.MethodName) prog_9_method_1_code 5 (Option.none : Option Jvm.ClassFile.FieldType)).before a0 Z = true := hw _ (gm 53 rfl)
theorem wd54 (hw : HW a0 Z) : (Cond.methodLink c0_ 1 ({ cls := c26_, name := "<init>", desc := "()V" } : Jvm.MethodName)).before a0 Z = true := hw _ (gm 54 rfl)
theorem wd55 (hw : HW a0 Z) : (Cond.instanceMethod ({ cls := c26_, name := "<init>", desc := "()V" } : Jvm.MethodName)).before a0 Z = true := hw _ (gm 55 rfl)
theorem wd57 (hw : HW a0 Z) : (Cond.initialized c26_).before a0 Z = true := hw _ (gm 57 rfl)
theorem wd58 (hw : HW a0 Z) : (Cond.code ({ cls := c26_, name := "<init>", desc := "()V" } : Jvm.MethodName) jdk_30_method_1_code 1 (Option.none : Option Jvm.ClassFile.FieldType)).before a0 Z = true := hw _ (gm 58 rfl)
theorem wd59 (hw : HW a0 Z) : (Cond.methodLink c26_ 1 ({ cls := c15_, name := "<init>", desc := "()V" } : Jvm.MethodName)).before a0 Z = true := hw _ (gm 59 rfl)
theorem wd60 (hw : HW a0 Z) : (Cond.stringLink c0_ 7 c19_).before a0 Z = true := hw _ (gm 60 rfl)
theorem wd63 (hw : HW a0 Z) : (Cond.methodLink c0_ 9 ({ cls := "java/util/Objects", name := "requireNonNull", desc := c13_ } : Jvm.MethodName)).before a0 Z = true := hw _ (gm 63 rfl)
theorem wd64 (hw : HW a0 Z) : (Cond.static ({ cls := "java/util/Objects", name := "requireNonNull", desc := c13_ } : Jvm.MethodName)).before a0 Z = true := hw _ (gm 64 rfl)
theorem wd65 (hw : HW a0 Z) : (Cond.initialized "java/util/Objects").before a0 Z = true := hw _ (gm 65 rfl)
theorem wd66 (hw : HW a0 Z) : (Cond.code ({ cls := "java/util/Objects", name := "requireNonNull", desc := c13_ } : Jvm.MethodName) jdk_31_method_11_code 2 (Option.some (FieldType.object c15_))).before a0 Z = true := hw _ (gm 66 rfl)
theorem wd67 (hw : HW a0 Z) : (Cond.stringLink c0_ 15 "beanName").before a0 Z = true := hw _ (gm 67 rfl)
theorem wd68 (hw : HW a0 Z) : (Cond.stringLink c0_ 17 "application name").before a0 Z = true := hw _ (gm 68 rfl)
theorem wd69 (hw : HW a0 Z) : (Cond.methodLink c0_ 19 ({ cls := c0_, name := "checkSegment", desc := c8_ } : Jvm.MethodName)).before a0 Z = true := hw _ (gm 69 rfl)
theorem wd70 (hw : HW a0 Z) : (Cond.static ({ cls := c0_, name := "checkSegment", desc := c8_ } : Jvm.MethodName)).before a0 Z = true := hw _ (gm 70 rfl)
theorem wd71 (hw : HW a0 Z) : (Cond.code ({ cls := c0_, name := "checkSegment", desc := c8_ } : Jvm.MethodName) prog_9_method_9_code 4 (Option.none : Option Jvm.ClassFile.FieldType)).before a0 Z = true := hw _ (gm 71 rfl)
theorem wd72 (hw : HW a0 Z) : (Cond.stringLink c0_ 25 "module name").before a0 Z = true := hw _ (gm 72 rfl)
theorem wd73 (hw : HW a0 Z) : (Cond.methodLink c0_ 122 ({ cls := c1_, name := "isEmpty", desc := "()Z" } : Jvm.MethodName)).before a0 Z = true := hw _ (gm 73 rfl)
theorem wd74 (hw : HW a0 Z) : (Cond.declares ({ cls := c1_, name := "isEmpty", desc := "()Z" } : Jvm.MethodName)).before a0 Z = true := hw _ (gm 74 rfl)
theorem wd75 (hw : HW a0 Z) : (Cond.instanceMethod ({ cls := c1_, name := "isEmpty", desc := "()Z" } : Jvm.MethodName)).before a0 Z = true := hw _ (gm 75 rfl)
theorem wd76 (hw : HW a0 Z) : (Cond.selects c1_ ({ cls := c1_, name := "isEmpty", desc := "()Z" } : Jvm.MethodName) ({ cls := c1_, name := "isEmpty", desc := "()Z" } : Jvm.MethodName)).before a0 Z = true := hw _ (gm 76 rfl)
theorem wd77 (hw : HW a0 Z) : (Cond.code ({ cls := c1_, name := "isEmpty", desc := "()Z" } : Jvm.MethodName) jdk_42_method_55_code 1 (Option.some FieldType.boolean)).before a0 Z = true := hw _ (gm 77 rfl)
theorem wd78 (hw : HW a0 Z) : (Cond.stringLink c0_ 105 "/").before a0 Z = true := hw _ (gm 78 rfl)
theorem wd79 (hw : HW a0 Z) : (Cond.methodLink c0_ 126 ({ cls := c1_, name := "contains", desc := c17_ } : Jvm.MethodName)).before a0 Z = true := hw _ (gm 79 rfl)
theorem wd80 (hw : HW a0 Z) : (Cond.declares ({ cls := c1_, name := "contains", desc := c17_ } : Jvm.MethodName)).before a0 Z = true := hw _ (gm 80 rfl)
theorem wd81 (hw : HW a0 Z) : (Cond.instanceMethod ({ cls := c1_, name := "contains", desc := c17_ } : Jvm.MethodName)).before a0 Z = true := hw _ (gm 81 rfl)
theorem wd82 (hw : HW a0 Z) : (Cond.selects c1_ ({ cls := c1_, name := "contains", desc := c17_ } : Jvm.MethodName) ({ cls := c1_, name := "contains", desc := c17_ } : Jvm.MethodName)).before a0 Z = true := hw _ (gm 82 rfl)
theorem wd83 (hw : HW a0 Z) : (Cond.code ({ cls := c1_, name := "contains", desc := c17_ } : Jvm.MethodName) jdk_42_method_97_code 2 (Option.some FieldType.boolean)).before a0 Z = true := hw _ (gm 83 rfl)
theorem wd84 (hw : HW a0 Z) : (Cond.methodLink c1_ 710 ({ cls := c20_, name := "toString", desc := c7_ } : Jvm.MethodName)).before a0 Z = true := hw _ (gm 84 rfl)
theorem wd85 (hw : HW a0 Z) : (Cond.declares ({ cls := c20_, name := "toString", desc := c7_ } : Jvm.MethodName)).before a0 Z = true := hw _ (gm 85 rfl)
theorem wd86 (hw : HW a0 Z) : (Cond.interfaceMethod c20_ c20_ "toString" c7_).before a0 Z = true := hw _ (gm 86 rfl)
theorem wd87 (hw : HW a0 Z) : (Cond.selects c1_ ({ cls := c20_, name := "toString", desc := c7_ } : Jvm.MethodName) ({ cls := c1_, name := "toString", desc := c7_ } : Jvm.MethodName)).before a0 Z = true := hw _ (gm 87 rfl)
theorem wd88 (hw : HW a0 Z) : (Cond.instanceMethod ({ cls := c1_, name := "toString", desc := c7_ } : Jvm.MethodName)).before a0 Z = true := hw _ (gm 88 rfl)
theorem wd89 (hw : HW a0 Z) : (Cond.publicMethod ({ cls := c1_, name := "toString", desc := c7_ } : Jvm.MethodName)).before a0 Z = true := hw _ (gm 89 rfl)
theorem wd90 (hw : HW a0 Z) : (Cond.unhidden c1_ "toString" c7_).before a0 Z = true := hw _ (gm 90 rfl)
theorem wd91 (hw : HW a0 Z) : (Cond.castable c1_ c20_).before a0 Z = true := hw _ (gm 91 rfl)
theorem wd92 (hw : HW a0 Z) : (Cond.code ({ cls := c1_, name := "toString", desc := c7_ } : Jvm.MethodName) jdk_42_method_126_code 1 (Option.some (FieldType.object c1_))).before a0 Z = true := hw _ (gm 92 rfl)
theorem wd93 (hw : HW a0 Z) : (Cond.methodLink c1_ 711 ({ cls := c1_, name := "indexOf", desc := c22_ } : Jvm.MethodName)).before a0 Z = true := hw _ (gm 93 rfl)
theorem wd94 (hw : HW a0 Z) : (Cond.declares ({ cls := c1_, name := "indexOf", desc := c22_ } : Jvm.MethodName)).before a0 Z = true := hw _ (gm 94 rfl)
theorem wd95 (hw : HW a0 Z) : (Cond.instanceMethod ({ cls := c1_, name := "indexOf", desc := c22_ } : Jvm.MethodName)).before a0 Z = true := hw _ (gm 95 rfl)
theorem wd96 (hw : HW a0 Z) : (Cond.selects c1_ ({ cls := c1_, name := "indexOf", desc := c22_ } : Jvm.MethodName) ({ cls := c1_, name := "indexOf", desc := c22_ } : Jvm.MethodName)).before a0 Z = true := hw _ (gm 96 rfl)
theorem wd97 (hw : HW a0 Z) : (Cond.code ({ cls := c1_, name := "indexOf", desc := c22_ } : Jvm.MethodName) jdk_42_method_84_code 3 (Option.some FieldType.int)).before a0 Z = true := hw _ (gm 97 rfl)
theorem wd98 (hw : HW a0 Z) : (Cond.methodLink c1_ 335 ({ cls := c1_, name := "coder", desc := "()B" } : Jvm.MethodName)).before a0 Z = true := hw _ (gm 98 rfl)
theorem wd99 (hw : HW a0 Z) : (Cond.declares ({ cls := c1_, name := "coder", desc := "()B" } : Jvm.MethodName)).before a0 Z = true := hw _ (gm 99 rfl)
theorem wd100 (hw : HW a0 Z) : (Cond.instanceMethod ({ cls := c1_, name := "coder", desc := "()B" } : Jvm.MethodName)).before a0 Z = true := hw _ (gm 100 rfl)
theorem wd101 (hw : HW a0 Z) : (Cond.selects c1_ ({ cls := c1_, name := "coder", desc := "()B" } : Jvm.MethodName) ({ cls := c1_, name := "coder", desc := "()B" } : Jvm.MethodName)).before a0 Z = true := hw _ (gm 101 rfl)
theorem wd102 (hw : HW a0 Z) : (Cond.code ({ cls := c1_, name := "coder", desc := "()B" } : Jvm.MethodName) jdk_42_method_152_code 1 (Option.some FieldType.byte)).before a0 Z = true := hw _ (gm 102 rfl)
theorem wd103 (hw : HW a0 Z) : (Cond.methodLink c1_ 492 ({ cls := c1_, name := "isLatin1", desc := "()Z" } : Jvm.MethodName)).before a0 Z = true := hw _ (gm 103 rfl)
theorem wd104 (hw : HW a0 Z) : (Cond.declares ({ cls := c1_, name := "isLatin1", desc := "()Z" } : Jvm.MethodName)).before a0 Z = true := hw _ (gm 104 rfl)
theorem wd105 (hw : HW a0 Z) : (Cond.instanceMethod ({ cls := c1_, name := "isLatin1", desc := "()Z" } : Jvm.MethodName)).before a0 Z = true := hw _ (gm 105 rfl)
theorem wd106 (hw : HW a0 Z) : (Cond.selects c1_ ({ cls := c1_, name := "isLatin1", desc := "()Z" } : Jvm.MethodName) ({ cls := c1_, name := "isLatin1", desc := "()Z" } : Jvm.MethodName)).before a0 Z = true := hw _ (gm 106 rfl)
theorem wd107 (hw : HW a0 Z) : (Cond.code ({ cls := c1_, name := "isLatin1", desc := "()Z" } : Jvm.MethodName) jdk_42_method_154_code 1 (Option.some FieldType.boolean)).before a0 Z = true := hw _ (gm 107 rfl)
theorem wd108 (hw : HW a0 Z) : (Cond.methodLink c1_ 647 ({ cls := c9_, name := "indexOf", desc := "([B[B)I" } : Jvm.MethodName)).before a0 Z = true := hw _ (gm 108 rfl)
theorem wd109 (hw : HW a0 Z) : (Cond.static ({ cls := c9_, name := "indexOf", desc := "([B[B)I" } : Jvm.MethodName)).before a0 Z = true := hw _ (gm 109 rfl)
theorem wd110 (hw : HW a0 Z) : (Cond.code ({ cls := c9_, name := "indexOf", desc := "([B[B)I" } : Jvm.MethodName) jdk_43_method_24_code 2 (Option.some FieldType.int)).before a0 Z = true := hw _ (gm 110 rfl)
theorem wd111 (hw : HW a0 Z) : (Cond.methodLink c9_ 99 ({ cls := c9_, name := "indexOf", desc := "([BI[BII)I" } : Jvm.MethodName)).before a0 Z = true := hw _ (gm 111 rfl)
theorem wd112 (hw : HW a0 Z) : (Cond.static ({ cls := c9_, name := "indexOf", desc := "([BI[BII)I" } : Jvm.MethodName)).before a0 Z = true := hw _ (gm 112 rfl)
theorem wd113 (hw : HW a0 Z) : (Cond.code ({ cls := c9_, name := "indexOf", desc := "([BI[BII)I" } : Jvm.MethodName) jdk_43_method_25_code 11 (Option.some FieldType.int)).before a0 Z = true := hw _ (gm 113 rfl)
theorem wd114 (hw : HW a0 Z) : (Cond.stringLink c0_ 120 "!").before a0 Z = true := hw _ (gm 114 rfl)
theorem wd115 (hw : HW a0 Z) : (Cond.stringLink c0_ 27 "bean name").before a0 Z = true := hw _ (gm 115 rfl)
theorem wd116 (hw : HW a0 Z) : (Cond.stringLink c0_ 29 "view name").before a0 Z = true := hw _ (gm 116 rfl)
theorem wd117 (hw : HW a0 Z) : (Cond.fieldLink c0_ 31 c0_ "appName" c4_).before a0 Z = true := hw _ (gm 117 rfl)
theorem wd118 (hw : HW a0 Z) : (Cond.laysFinal c0_ c0_ "appName" c4_).before a0 Z = true := hw _ (gm 118 rfl)
theorem wd119 (hw : HW a0 Z) : (Cond.fieldLink c0_ 35 c0_ c19_ c4_).before a0 Z = true := hw _ (gm 119 rfl)
theorem wd120 (hw : HW a0 Z) : (Cond.laysFinal c0_ c0_ c19_ c4_).before a0 Z = true := hw _ (gm 120 rfl)
theorem wd121 (hw : HW a0 Z) : (Cond.fieldLink c0_ 37 c0_ "beanName" c4_).before a0 Z = true := hw _ (gm 121 rfl)
theorem wd122 (hw : HW a0 Z) : (Cond.laysFinal c0_ c0_ "beanName" c4_).before a0 Z = true := hw _ (gm 122 rfl)
theorem wd123 (hw : HW a0 Z) : (Cond.fieldLink c0_ 39 c0_ "viewName" c4_).before a0 Z = true := hw _ (gm 123 rfl)
theorem wd124 (hw : HW a0 Z) : (Cond.laysFinal c0_ c0_ "viewName" c4_).before a0 Z = true := hw _ (gm 124 rfl)
theorem wd125 (hw : HW a0 Z) : (Cond.methodLink c5_ 27 ({ cls := c0_, name := "inModule", desc := c7_ } : Jvm.MethodName)).before a0 Z = true := hw _ (gm 125 rfl)
theorem wd126 (hw : HW a0 Z) : (Cond.declares ({ cls := c0_, name := "inModule", desc := c7_ } : Jvm.MethodName)).before a0 Z = true := hw _ (gm 126 rfl)
theorem wd127 (hw : HW a0 Z) : (Cond.instanceMethod ({ cls := c0_, name := "inModule", desc := c7_ } : Jvm.MethodName)).before a0 Z = true := hw _ (gm 127 rfl)
theorem wd128 (hw : HW a0 Z) : (Cond.selects c0_ ({ cls := c0_, name := "inModule", desc := c7_ } : Jvm.MethodName) ({ cls := c0_, name := "inModule", desc := c7_ } : Jvm.MethodName)).before a0 Z = true := hw _ (gm 128 rfl)
theorem wd129 (hw : HW a0 Z) : (Cond.code ({ cls := c0_, name := "inModule", desc := c7_ } : Jvm.MethodName) prog_9_method_6_code 1 (Option.some (FieldType.object c1_))).before a0 Z = true := hw _ (gm 129 rfl)
theorem wd130 (hw : HW a0 Z) : (Cond.classLink c0_ 70 c3_).before a0 Z = true := hw _ (gm 130 rfl)
theorem wd131 (hw : HW a0 Z) : (Cond.instantiable c3_ 4).before a0 Z = true := hw _ (gm 131 rfl)
theorem wd132 (hw : HW a0 Z) : (Cond.initialized c3_).before a0 Z = true := hw _ (gm 132 rfl)
theorem wd133 (hw : HW a0 Z) : (Cond.methodLink c0_ 72 ({ cls := c3_, name := "<init>", desc := "()V" } : Jvm.MethodName)).before a0 Z = true := hw _ (gm 133 rfl)
theorem wd134 (hw : HW a0 Z) : (Cond.instanceMethod ({ cls := c3_, name := "<init>", desc := "()V" } : Jvm.MethodName)).before a0 Z = true := hw _ (gm 134 rfl)
theorem wd135 (hw : HW a0 Z) : (Cond.code ({ cls := c3_, name := "<init>", desc := "()V" } : Jvm.MethodName) jdk_67_method_1_code 1 (Option.none : Option Jvm.ClassFile.FieldType)).before a0 Z = true := hw _ (gm 135 rfl)
theorem wd136 (hw : HW a0 Z) : (Cond.methodLink c3_ 1 ({ cls := c2_, name := "<init>", desc := "(I)V" } : Jvm.MethodName)).before a0 Z = true := hw _ (gm 136 rfl)
theorem wd137 (hw : HW a0 Z) : (Cond.instanceMethod ({ cls := c2_, name := "<init>", desc := "(I)V" } : Jvm.MethodName)).before a0 Z = true := hw _ (gm 137 rfl)
theorem wd140 (hw : HW a0 Z) : (Cond.initialized c2_).before a0 Z = true := hw _ (gm 140 rfl)
theorem wd141 (hw : HW a0 Z) : (Cond.code ({ cls := c2_, name := "<init>", desc := "(I)V" } : Jvm.MethodName) jdk_68_method_2_code 2 (Option.none : Option Jvm.ClassFile.FieldType)).before a0 Z = true := hw _ (gm 141 rfl)
theorem wd142 (hw : HW a0 Z) : (Cond.methodLink c2_ 3 ({ cls := c15_, name := "<init>", desc := "()V" } : Jvm.MethodName)).before a0 Z = true := hw _ (gm 142 rfl)
theorem wd143 (hw : HW a0 Z) : (Cond.fieldLink c2_ 18 c1_ c6_ "Z").before a0 Z = true := hw _ (gm 143 rfl)
theorem wd144 (hw : HW a0 Z) : (Cond.fieldLink c2_ 15 c2_ "value" "[B").before a0 Z = true := hw _ (gm 144 rfl)
theorem wd145 (hw : HW a0 Z) : (Cond.lays c3_ c2_ "value" "[B").before a0 Z = true := hw _ (gm 145 rfl)
theorem wd146 (hw : HW a0 Z) : (Cond.fieldLink c2_ 22 c2_ "coder" "B").before a0 Z = true := hw _ (gm 146 rfl)
theorem wd147 (hw : HW a0 Z) : (Cond.lays c3_ c2_ "coder" "B").before a0 Z = true := hw _ (gm 147 rfl)
theorem wd148 (hw : HW a0 Z) : (Cond.stringLink c0_ 110 "java:module/").before a0 Z = true := hw _ (gm 148 rfl)
theorem wd149 (hw : HW a0 Z) : (Cond.methodLink c0_ 75 ({ cls := c3_, name := "append", desc := c11_ } : Jvm.MethodName)).before a0 Z = true := hw _ (gm 149 rfl)
theorem wd150 (hw : HW a0 Z) : (Cond.declares ({ cls := c3_, name := "append", desc := c11_ } : Jvm.MethodName)).before a0 Z = true := hw _ (gm 150 rfl)
theorem wd151 (hw : HW a0 Z) : (Cond.instanceMethod ({ cls := c3_, name := "append", desc := c11_ } : Jvm.MethodName)).before a0 Z = true := hw _ (gm 151 rfl)
theorem wd152 (hw : HW a0 Z) : (Cond.selects c3_ ({ cls := c3_, name := "append", desc := c11_ } : Jvm.MethodName) ({ cls := c3_, name := "append", desc := c11_ } : Jvm.MethodName)).before a0 Z = true := hw _ (gm 152 rfl)
theorem wd153 (hw : HW a0 Z) : (Cond.code ({ cls := c3_, name := "append", desc := c11_ } : Jvm.MethodName) jdk_67_method_7_code 2 (Option.some (FieldType.object c3_))).before a0 Z = true := hw _ (gm 153 rfl)
theorem wd154 (hw : HW a0 Z) : (Cond.methodLink c3_ 29 ({ cls := c2_, name := "append", desc := c16_ } : Jvm.MethodName)).before a0 Z = true := hw _ (gm 154 rfl)
theorem wd155 (hw : HW a0 Z) : (Cond.instanceMethod ({ cls := c2_, name := "append", desc := c16_ } : Jvm.MethodName)).before a0 Z = true := hw _ (gm 155 rfl)
theorem wd156 (hw : HW a0 Z) : (Cond.superclass c3_ c2_).before a0 Z = true := hw _ (gm 156 rfl)
theorem wd158 (hw : HW a0 Z) : (Cond.code ({ cls := c2_, name := "append", desc := c16_ } : Jvm.MethodName) jdk_68_method_22_code 3 (Option.some (FieldType.object c2_))).before a0 Z = true := hw _ (gm 158 rfl)
theorem wd159 (hw : HW a0 Z) : (Cond.methodLink c2_ 32 ({ cls := c1_, name := "length", desc := "()I" } : Jvm.MethodName)).before a0 Z = true := hw _ (gm 159 rfl)
theorem wd160 (hw : HW a0 Z) : (Cond.declares ({ cls := c1_, name := "length", desc := "()I" } : Jvm.MethodName)).before a0 Z = true := hw _ (gm 160 rfl)
theorem wd161 (hw : HW a0 Z) : (Cond.instanceMethod ({ cls := c1_, name := "length", desc := "()I" } : Jvm.MethodName)).before a0 Z = true := hw _ (gm 161 rfl)
theorem wd162 (hw : HW a0 Z) : (Cond.selects c1_ ({ cls := c1_, name := "length", desc := "()I" } : Jvm.MethodName) ({ cls := c1_, name := "length", desc := "()I" } : Jvm.MethodName)).before a0 Z = true := hw _ (gm 162 rfl)
theorem wd163 (hw : HW a0 Z) : (Cond.code ({ cls := c1_, name := "length", desc := "()I" } : Jvm.MethodName) jdk_42_method_54_code 1 (Option.some FieldType.int)).before a0 Z = true := hw _ (gm 163 rfl)
theorem wd164 (hw : HW a0 Z) : (Cond.fieldLink c2_ 79 c2_ "count" "I").before a0 Z = true := hw _ (gm 164 rfl)
theorem wd165 (hw : HW a0 Z) : (Cond.lays c3_ c2_ "count" "I").before a0 Z = true := hw _ (gm 165 rfl)
theorem wd166 (hw : HW a0 Z) : (Cond.methodLink c2_ 100 ({ cls := c2_, name := c21_, desc := "(I)V" } : Jvm.MethodName)).before a0 Z = true := hw _ (gm 166 rfl)
theorem wd167 (hw : HW a0 Z) : (Cond.instanceMethod ({ cls := c2_, name := c21_, desc := "(I)V" } : Jvm.MethodName)).before a0 Z = true := hw _ (gm 167 rfl)
theorem wd168 (hw : HW a0 Z) : (Cond.privateMethod ({ cls := c2_, name := c21_, desc := "(I)V" } : Jvm.MethodName)).before a0 Z = true := hw _ (gm 168 rfl)
theorem wd169 (hw : HW a0 Z) : (Cond.selects c3_ ({ cls := c2_, name := c21_, desc := "(I)V" } : Jvm.MethodName) ({ cls := c2_, name := c21_, desc := "(I)V" } : Jvm.MethodName)).before a0 Z = true := hw _ (gm 169 rfl)
theorem wd170 (hw : HW a0 Z) : (Cond.code ({ cls := c2_, name := c21_, desc := "(I)V" } : Jvm.MethodName) jdk_68_method_9_code 3 (Option.none : Option Jvm.ClassFile.FieldType)).before a0 Z = true := hw _ (gm 170 rfl)
theorem wd171 (hw : HW a0 Z) : (Cond.methodLink c2_ 208 ({ cls := c2_, name := "putStringAt", desc := "(ILjava/lang/String;)V" } : Jvm.MethodName)).before a0 Z = true := hw _ (gm 171 rfl)
theorem wd172 (hw : HW a0 Z) : (Cond.instanceMethod ({ cls := c2_, name := "putStringAt", desc := "(ILjava/lang/String;)V" } : Jvm.MethodName)).before a0 Z = true := hw _ (gm 172 rfl)
theorem wd173 (hw : HW a0 Z) : (Cond.privateMethod ({ cls := c2_, name := "putStringAt", desc := "(ILjava/lang/String;)V" } : Jvm.MethodName)).before a0 Z = true := hw _ (gm 173 rfl)
theorem wd175 (hw : HW a0 Z) : (Cond.code ({ cls := c2_, name := "putStringAt", desc := "(ILjava/lang/String;)V" } : Jvm.MethodName) jdk_68_method_73_code 3 (Option.none : Option Jvm.ClassFile.FieldType)).before a0 Z = true := hw _ (gm 175 rfl)
theorem wd176 (hw : HW a0 Z) : (Cond.methodLink c2_ 397 ({ cls := c2_, name := "inflateIfNeededFor", desc := "(Ljava/lang/String;)V" } : Jvm.MethodName)).before a0 Z = true := hw _ (gm 176 rfl)
theorem wd177 (hw : HW a0 Z) : (Cond.instanceMethod ({ cls := c2_, name := "inflateIfNeededFor", desc := "(Ljava/lang/String;)V" } : Jvm.MethodName)).before a0 Z = true := hw _ (gm 177 rfl)
theorem wd178 (hw : HW a0 Z) : (Cond.privateMethod ({ cls := c2_, name := "inflateIfNeededFor", desc := "(Ljava/lang/String;)V" } : Jvm.MethodName)).before a0 Z = true := hw _ (gm 178 rfl)
theorem wd180 (hw : HW a0 Z) : (Cond.code ({ cls := c2_, name := "inflateIfNeededFor", desc := "(Ljava/lang/String;)V" } : Jvm.MethodName) jdk_68_method_71_code 2 (Option.none : Option Jvm.ClassFile.FieldType)).before a0 Z = true := hw _ (gm 180 rfl)
theorem wd181 (hw : HW a0 Z) : (Cond.methodLink c2_ 40 ({ cls := c1_, name := "coder", desc := "()B" } : Jvm.MethodName)).before a0 Z = true := hw _ (gm 181 rfl)
theorem wd182 (hw : HW a0 Z) : (Cond.methodLink c2_ 399 ({ cls := c1_, name := "getBytes", desc := "([BIB)V" } : Jvm.MethodName)).before a0 Z = true := hw _ (gm 182 rfl)
theorem wd183 (hw : HW a0 Z) : (Cond.declares ({ cls := c1_, name := "getBytes", desc := "([BIB)V" } : Jvm.MethodName)).before a0 Z = true := hw _ (gm 183 rfl)
theorem wd184 (hw : HW a0 Z) : (Cond.instanceMethod ({ cls := c1_, name := "getBytes", desc := "([BIB)V" } : Jvm.MethodName)).before a0 Z = true := hw _ (gm 184 rfl)
theorem wd185 (hw : HW a0 Z) : (Cond.selects c1_ ({ cls := c1_, name := "getBytes", desc := "([BIB)V" } : Jvm.MethodName) ({ cls := c1_, name := "getBytes", desc := "([BIB)V" } : Jvm.MethodName)).before a0 Z = true := hw _ (gm 185 rfl)
theorem wd186 (hw : HW a0 Z) : (Cond.code ({ cls := c1_, name := "getBytes", desc := "([BIB)V" } : Jvm.MethodName) jdk_42_method_147_code 4 (Option.none : Option Jvm.ClassFile.FieldType)).before a0 Z = true := hw _ (gm 186 rfl)
theorem wd187 (hw : HW a0 Z) : (Cond.methodLink c1_ 212 ({ cls := "java/lang/System", name := "arraycopy", desc := c14_ } : Jvm.MethodName)).before a0 Z = true := hw _ (gm 187 rfl)
theorem wd188 (hw : HW a0 Z) : (Cond.static ({ cls := "java/lang/System", name := "arraycopy", desc := c14_ } : Jvm.MethodName)).before a0 Z = true := hw _ (gm 188 rfl)
theorem wd189 (hw : HW a0 Z) : (Cond.initialized "java/lang/System").before a0 Z = true := hw _ (gm 189 rfl)
theorem wd190 (hw : HW a0 Z) : (Cond.native ({ cls := "java/lang/System", name := "arraycopy", desc := c14_ } : Jvm.MethodName)).before a0 Z = true := hw _ (gm 190 rfl)
theorem wd191 (hw : HW a0 Z) : (Cond.methodLink c0_ 107 ({ cls := c0_, name := "viewSuffix", desc := c7_ } : Jvm.MethodName)).before a0 Z = true := hw _ (gm 191 rfl)
theorem wd192 (hw : HW a0 Z) : (Cond.instanceMethod ({ cls := c0_, name := "viewSuffix", desc := c7_ } : Jvm.MethodName)).before a0 Z = true := hw _ (gm 192 rfl)
theorem wd193 (hw : HW a0 Z) : (Cond.privateMethod ({ cls := c0_, name := "viewSuffix", desc := c7_ } : Jvm.MethodName)).before a0 Z = true := hw _ (gm 193 rfl)
theorem wd194 (hw : HW a0 Z) : (Cond.code ({ cls := c0_, name := "viewSuffix", desc := c7_ } : Jvm.MethodName) prog_9_method_8_code 1 (Option.some (FieldType.object c1_))).before a0 Z = true := hw _ (gm 194 rfl)
theorem wd195 (hw : HW a0 Z) : (Cond.stringLink c0_ 118 "").before a0 Z = true := hw _ (gm 195 rfl)
theorem wd196 (hw : HW a0 Z) : (Cond.methodLink c0_ 84 ({ cls := c3_, name := "toString", desc := c7_ } : Jvm.MethodName)).before a0 Z = true := hw _ (gm 196 rfl)
theorem wd197 (hw : HW a0 Z) : (Cond.declares ({ cls := c3_, name := "toString", desc := c7_ } : Jvm.MethodName)).before a0 Z = true := hw _ (gm 197 rfl)
theorem wd198 (hw : HW a0 Z) : (Cond.instanceMethod ({ cls := c3_, name := "toString", desc := c7_ } : Jvm.MethodName)).before a0 Z = true := hw _ (gm 198 rfl)
theorem wd199 (hw : HW a0 Z) : (Cond.selects c3_ ({ cls := c3_, name := "toString", desc := c7_ } : Jvm.MethodName) ({ cls := c3_, name := "toString", desc := c7_ } : Jvm.MethodName)).before a0 Z = true := hw _ (gm 199 rfl)
theorem wd200 (hw : HW a0 Z) : (Cond.code ({ cls := c3_, name := "toString", desc := c7_ } : Jvm.MethodName) jdk_67_method_42_code 1 (Option.some (FieldType.object c1_))).before a0 Z = true := hw _ (gm 200 rfl)
theorem wd201 (hw : HW a0 Z) : (Cond.classLink c3_ 18 c1_).before a0 Z = true := hw _ (gm 201 rfl)
theorem wd202 (hw : HW a0 Z) : (Cond.methodLink c3_ 137 ({ cls := c1_, name := "<init>", desc := "(Ljava/lang/StringBuilder;)V" } : Jvm.MethodName)).before a0 Z = true := hw _ (gm 202 rfl)
theorem wd203 (hw : HW a0 Z) : (Cond.instanceMethod ({ cls := c1_, name := "<init>", desc := "(Ljava/lang/StringBuilder;)V" } : Jvm.MethodName)).before a0 Z = true := hw _ (gm 203 rfl)
theorem wd204 (hw : HW a0 Z) : (Cond.code ({ cls := c1_, name := "<init>", desc := "(Ljava/lang/StringBuilder;)V" } : Jvm.MethodName) jdk_42_method_53_code 2 (Option.none : Option Jvm.ClassFile.FieldType)).before a0 Z = true := hw _ (gm 204 rfl)
theorem wd205 (hw : HW a0 Z) : (Cond.methodLink c1_ 489 ({ cls := c1_, name := "<init>", desc := c18_ } : Jvm.MethodName)).before a0 Z = true := hw _ (gm 205 rfl)
theorem wd206 (hw : HW a0 Z) : (Cond.instanceMethod ({ cls := c1_, name := "<init>", desc := c18_ } : Jvm.MethodName)).before a0 Z = true := hw _ (gm 206 rfl)
theorem wd207 (hw : HW a0 Z) : (Cond.code ({ cls := c1_, name := "<init>", desc := c18_ } : Jvm.MethodName) jdk_42_method_150_code 5 (Option.none : Option Jvm.ClassFile.FieldType)).before a0 Z = true := hw _ (gm 207 rfl)
theorem wd208 (hw : HW a0 Z) : (Cond.methodLink c1_ 552 ({ cls := c2_, name := "getValue", desc := "()[B" } : Jvm.MethodName)).before a0 Z = true := hw _ (gm 208 rfl)
theorem wd209 (hw : HW a0 Z) : (Cond.declares ({ cls := c2_, name := "getValue", desc := "()[B" } : Jvm.MethodName)).before a0 Z = true := hw _ (gm 209 rfl)
theorem wd210 (hw : HW a0 Z) : (Cond.instanceMethod ({ cls := c2_, name := "getValue", desc := "()[B" } : Jvm.MethodName)).before a0 Z = true := hw _ (gm 210 rfl)
theorem wd211 (hw : HW a0 Z) : (Cond.selects c3_ ({ cls := c2_, name := "getValue", desc := "()[B" } : Jvm.MethodName) ({ cls := c2_, name := "getValue", desc := "()[B" } : Jvm.MethodName)).before a0 Z = true := hw _ (gm 211 rfl)
theorem wd212 (hw : HW a0 Z) : (Cond.code ({ cls := c2_, name := "getValue", desc := "()[B" } : Jvm.MethodName) jdk_68_method_64_code 1 (Option.some (FieldType.array FieldType.byte))).before a0 Z = true := hw _ (gm 212 rfl)
theorem wd213 (hw : HW a0 Z) : (Cond.methodLink c1_ 549 ({ cls := c2_, name := "length", desc := "()I" } : Jvm.MethodName)).before a0 Z = true := hw _ (gm 213 rfl)
theorem wd214 (hw : HW a0 Z) : (Cond.declares ({ cls := c2_, name := "length", desc := "()I" } : Jvm.MethodName)).before a0 Z = true := hw _ (gm 214 rfl)
theorem wd215 (hw : HW a0 Z) : (Cond.instanceMethod ({ cls := c2_, name := "length", desc := "()I" } : Jvm.MethodName)).before a0 Z = true := hw _ (gm 215 rfl)
theorem wd216 (hw : HW a0 Z) : (Cond.selects c3_ ({ cls := c2_, name := "length", desc := "()I" } : Jvm.MethodName) ({ cls := c3_, name := "length", desc := "()I" } : Jvm.MethodName)).before a0 Z = true := hw _ (gm 216 rfl)
theorem wd217 (hw : HW a0 Z) : (Cond.instanceMethod ({ cls := c3_, name := "length", desc := "()I" } : Jvm.MethodName)).before a0 Z = true := hw _ (gm 217 rfl)
theorem wd218 (hw : HW a0 Z) : (Cond.code ({ cls := c3_, name := "length", desc := "()I" } : Jvm.MethodName) jdk_67_method_93_code 1 (Option.some FieldType.int)).before a0 Z = true := hw _ (gm 218 rfl)
theorem wd219 (hw : HW a0 Z) : (Cond.methodLink c3_ 343 ({ cls := c2_, name := "length", desc := "()I" } : Jvm.MethodName)).before a0 Z = true := hw _ (gm 219 rfl)
theorem wd220 (hw : HW a0 Z) : (Cond.code ({ cls := c2_, name := "length", desc := "()I" } : Jvm.MethodName) jdk_68_method_6_code 1 (Option.some FieldType.int)).before a0 Z = true := hw _ (gm 220 rfl)
theorem wd221 (hw : HW a0 Z) : (Cond.methodLink c1_ 1047 ({ cls := c2_, name := "isLatin1", desc := "()Z" } : Jvm.MethodName)).before a0 Z = true := hw _ (gm 221 rfl)
theorem wd222 (hw : HW a0 Z) : (Cond.declares ({ cls := c2_, name := "isLatin1", desc := "()Z" } : Jvm.MethodName)).before a0 Z = true := hw _ (gm 222 rfl)
theorem wd223 (hw : HW a0 Z) : (Cond.instanceMethod ({ cls := c2_, name := "isLatin1", desc := "()Z" } : Jvm.MethodName)).before a0 Z = true := hw _ (gm 223 rfl)
theorem wd224 (hw : HW a0 Z) : (Cond.selects c3_ ({ cls := c2_, name := "isLatin1", desc := "()Z" } : Jvm.MethodName) ({ cls := c2_, name := "isLatin1", desc := "()Z" } : Jvm.MethodName)).before a0 Z = true := hw _ (gm 224 rfl)
theorem wd225 (hw : HW a0 Z) : (Cond.code ({ cls := c2_, name := "isLatin1", desc := "()Z" } : Jvm.MethodName) jdk_68_method_68_code 1 (Option.some FieldType.boolean)).before a0 Z = true := hw _ (gm 225 rfl)
theorem wd226 (hw : HW a0 Z) : (Cond.methodLink c1_ 54 ({ cls := c10_, name := "copyOfRange", desc := "([BII)[B" } : Jvm.MethodName)).before a0 Z = true := hw _ (gm 226 rfl)
theorem wd227 (hw : HW a0 Z) : (Cond.static ({ cls := c10_, name := "copyOfRange", desc := "([BII)[B" } : Jvm.MethodName)).before a0 Z = true := hw _ (gm 227 rfl)
theorem wd228 (hw : HW a0 Z) : (Cond.initialized c10_).before a0 Z = true := hw _ (gm 228 rfl)
theorem wd229 (hw : HW a0 Z) : (Cond.code ({ cls := c10_, name := "copyOfRange", desc := "([BII)[B" } : Jvm.MethodName) jdk_65_method_132_code 3 (Option.some (FieldType.array FieldType.byte))).before a0 Z = true := hw _ (gm 229 rfl)
theorem wd230 (hw : HW a0 Z) : (Cond.methodLink c10_ 339 ({ cls := c10_, name := "copyOfRangeByte", desc := "([BII)[B" } : Jvm.MethodName)).before a0 Z = true := hw _ (gm 230 rfl)
theorem wd231 (hw : HW a0 Z) : (Cond.static ({ cls := c10_, name := "copyOfRangeByte", desc := "([BII)[B" } : Jvm.MethodName)).before a0 Z = true := hw _ (gm 231 rfl)
theorem wd232 (hw : HW a0 Z) : (Cond.code ({ cls := c10_, name := "copyOfRangeByte", desc := "([BII)[B" } : Jvm.MethodName) jdk_65_method_133_code 5 (Option.some (FieldType.array FieldType.byte))).before a0 Z = true := hw _ (gm 232 rfl)
theorem wd233 (hw : HW a0 Z) : (Cond.methodLink c10_ 343 ({ cls := c10_, name := "checkLength", desc := "(II)V" } : Jvm.MethodName)).before a0 Z = true := hw _ (gm 233 rfl)
theorem wd234 (hw : HW a0 Z) : (Cond.static ({ cls := c10_, name := "checkLength", desc := "(II)V" } : Jvm.MethodName)).before a0 Z = true := hw _ (gm 234 rfl)
theorem wd235 (hw : HW a0 Z) : (Cond.code ({ cls := c10_, name := "checkLength", desc := "(II)V" } : Jvm.MethodName) jdk_65_method_131_code 2 (Option.none : Option Jvm.ClassFile.FieldType)).before a0 Z = true := hw _ (gm 235 rfl)
theorem wd236 (hw : HW a0 Z) : (Cond.methodLink c10_ 304 ({ cls := c23_, name := "min", desc := "(II)I" } : Jvm.MethodName)).before a0 Z = true := hw _ (gm 236 rfl)
theorem wd237 (hw : HW a0 Z) : (Cond.static ({ cls := c23_, name := "min", desc := "(II)I" } : Jvm.MethodName)).before a0 Z = true := hw _ (gm 237 rfl)
theorem wd238 (hw : HW a0 Z) : (Cond.initialized c23_).before a0 Z = true := hw _ (gm 238 rfl)
theorem wd239 (hw : HW a0 Z) : (Cond.code ({ cls := c23_, name := "min", desc := "(II)I" } : Jvm.MethodName) jdk_29_method_69_code 2 (Option.some FieldType.int)).before a0 Z = true := hw _ (gm 239 rfl)
theorem wd240 (hw : HW a0 Z) : (Cond.methodLink c10_ 150 ({ cls := "java/lang/System", name := "arraycopy", desc := c14_ } : Jvm.MethodName)).before a0 Z = true := hw _ (gm 240 rfl)
theorem wd241 (hw : HW a0 Z) : (Cond.methodLink c5_ 31 ({ cls := c1_, name := "equals", desc := c25_ } : Jvm.MethodName)).before a0 Z = true := hw _ (gm 241 rfl)
theorem wd242 (hw : HW a0 Z) : (Cond.declares ({ cls := c1_, name := "equals", desc := c25_ } : Jvm.MethodName)).before a0 Z = true := hw _ (gm 242 rfl)
theorem wd243 (hw : HW a0 Z) : (Cond.instanceMethod ({ cls := c1_, name := "equals", desc := c25_ } : Jvm.MethodName)).before a0 Z = true := hw _ (gm 243 rfl)
theorem wd244 (hw : HW a0 Z) : (Cond.selects c1_ ({ cls := c1_, name := "equals", desc := c25_ } : Jvm.MethodName) ({ cls := c1_, name := "equals", desc := c25_ } : Jvm.MethodName)).before a0 Z = true := hw _ (gm 244 rfl)
theorem wd249 (hw : HW a0 Z) : (Cond.methodLink c2_ 104 ({ cls := c2_, name := "newCapacity", desc := "(I)I" } : Jvm.MethodName)).before a0 Z = true := hw _ (gm 249 rfl)
theorem wd250 (hw : HW a0 Z) : (Cond.instanceMethod ({ cls := c2_, name := "newCapacity", desc := "(I)I" } : Jvm.MethodName)).before a0 Z = true := hw _ (gm 250 rfl)
theorem wd251 (hw : HW a0 Z) : (Cond.privateMethod ({ cls := c2_, name := "newCapacity", desc := "(I)I" } : Jvm.MethodName)).before a0 Z = true := hw _ (gm 251 rfl)
theorem wd253 (hw : HW a0 Z) : (Cond.code ({ cls := c2_, name := "newCapacity", desc := "(I)I" } : Jvm.MethodName) jdk_68_method_10_code 6 (Option.some FieldType.int)).before a0 Z = true := hw _ (gm 253 rfl)
theorem wd254 (hw : HW a0 Z) : (Cond.methodLink c2_ 114 ({ cls := c12_, name := "newLength", desc := "(III)I" } : Jvm.MethodName)).before a0 Z = true := hw _ (gm 254 rfl)
theorem wd255 (hw : HW a0 Z) : (Cond.static ({ cls := c12_, name := "newLength", desc := "(III)I" } : Jvm.MethodName)).before a0 Z = true := hw _ (gm 255 rfl)
theorem wd256 (hw : HW a0 Z) : (Cond.initialized c12_).before a0 Z = true := hw _ (gm 256 rfl)
theorem wd257 (hw : HW a0 Z) : (Cond.code ({ cls := c12_, name := "newLength", desc := "(III)I" } : Jvm.MethodName) jdk_48_method_27_code 4 (Option.some FieldType.int)).before a0 Z = true := hw _ (gm 257 rfl)
theorem wd258 (hw : HW a0 Z) : (Cond.methodLink c12_ 194 ({ cls := c23_, name := "max", desc := "(II)I" } : Jvm.MethodName)).before a0 Z = true := hw _ (gm 258 rfl)
theorem wd259 (hw : HW a0 Z) : (Cond.static ({ cls := c23_, name := "max", desc := "(II)I" } : Jvm.MethodName)).before a0 Z = true := hw _ (gm 259 rfl)
theorem wd260 (hw : HW a0 Z) : (Cond.code ({ cls := c23_, name := "max", desc := "(II)I" } : Jvm.MethodName) jdk_29_method_65_code 2 (Option.some FieldType.int)).before a0 Z = true := hw _ (gm 260 rfl)
theorem wd261 (hw : HW a0 Z) : (Cond.constant c12_ 200 (2147483639 : Int32)).before a0 Z = true := hw _ (gm 261 rfl)
theorem wd262 (hw : HW a0 Z) : (Cond.constant c2_ 39 (2147483647 : Int32)).before a0 Z = true := hw _ (gm 262 rfl)
theorem wd263 (hw : HW a0 Z) : (Cond.methodLink c2_ 108 ({ cls := c10_, name := "copyOf", desc := "([BI)[B" } : Jvm.MethodName)).before a0 Z = true := hw _ (gm 263 rfl)
theorem wd264 (hw : HW a0 Z) : (Cond.static ({ cls := c10_, name := "copyOf", desc := "([BI)[B" } : Jvm.MethodName)).before a0 Z = true := hw _ (gm 264 rfl)
theorem wd265 (hw : HW a0 Z) : (Cond.code ({ cls := c10_, name := "copyOf", desc := "([BI)[B" } : Jvm.MethodName) jdk_65_method_121_code 3 (Option.some (FieldType.array FieldType.byte))).before a0 Z = true := hw _ (gm 265 rfl)
theorem wd266 (hw : HW a0 Z) : (Cond.methodLink c10_ 310 ({ cls := "[B", name := "clone", desc := c24_ } : Jvm.MethodName)).before a0 Z = true := hw _ (gm 266 rfl)
theorem wd267 (hw : HW a0 Z) : (Cond.sameMethod "[B" c15_ "clone" c24_).before a0 Z = true := hw _ (gm 267 rfl)
theorem wd269 (hw : HW a0 Z) : (Cond.instanceMethod ({ cls := c15_, name := "clone", desc := c24_ } : Jvm.MethodName)).before a0 Z = true := hw _ (gm 269 rfl)
theorem wd270 (hw : HW a0 Z) : (Cond.selects "[B" ({ cls := "[B", name := "clone", desc := c24_ } : Jvm.MethodName) ({ cls := c15_, name := "clone", desc := c24_ } : Jvm.MethodName)).before a0 Z = true := hw _ (gm 270 rfl)
theorem wd271 (hw : HW a0 Z) : (Cond.native ({ cls := c15_, name := "clone", desc := c24_ } : Jvm.MethodName)).before a0 Z = true := hw _ (gm 271 rfl)
theorem wd272 (hw : HW a0 Z) : (Cond.castable "[B" "java/lang/Cloneable").before a0 Z = true := hw _ (gm 272 rfl)
theorem wd273 (hw : HW a0 Z) : (Cond.classLink c10_ 311 "[B").before a0 Z = true := hw _ (gm 273 rfl)
end
variable (la : Launch) (Z : State) (a0 : Array Value)

/-! String constants: the words, the invariant -/
theorem own_safe_raw {Z : State} {EL : List (String × Nat)} {vm : Vm} {h : Heap} {x : Addr} (hal : Z.vm.Alike vm) (E : Exa Z h x c1_) (F : Fld Z h x c1_ "value" "[B" .null) : Safe Z EL vm h x := fun B => by
  obtain ⟨p, -, u, a, -, q, -, S, hx⟩ := B
  obtain ⟨cell, kc, e1, e2, -⟩ := E
  rcases hx with rfl | rfl
  · obtain ⟨cS, ⟨⟨h1, -, -, ⟨c1, k1, i1, f1, -⟩, -, -, -, v1, -⟩, -⟩, -⟩ := S
    obtain ⟨cl, cf, k, i, f, g1, g2, -, -, -, -, g7⟩ := F
    obtain ⟨k3, e3, -⟩ := State.fieldFound?_setVm (s := Z) hal g2
    have e4 := (show (Wst Z vm h).fieldFound? _ _ _ = _ from e3).symm.trans f1
    simp only [Option.some.injEq, Prod.mk.injEq] at e4
    cases g1.symm.trans h1
    rw [e4.2.2.2, v1] at g7
    simp at g7
  · have h2 := S.hd
    obtain ⟨cS, -, -, h4, -⟩ := S
    cases e1.symm.trans h2
    have h5 : Z.vm.findClass "[B" = some q.SA.cls := by rw [← hal.findClass]; exact h4
    obtain ⟨k1, a1, a2⟩ := Vm.findClass_spec e2
    obtain ⟨k2, b1, b2⟩ := Vm.findClass_spec h5
    cases a1.symm.trans b1
    exact absurd (a2.symm.trans b2) (by decide)

/-! constants that stand resolved: a callee that loads them again pays nothing -/
theorem own_restand {p : Program} {l : Launch} {e : Env} {R : Room} {s : State} {v w : Vm} {m : MethodId} {args : Array Value} {below : List Frame} {meth : Method} {c : Code} {T : State} {locs : List Loc} {cells slots : Nat} (X : Stand p l e R ((s.setVm v).setVm w) m args below meth c T locs cells slots) : Stand p l e R (s.setVm w) m args below meth c T locs cells slots := X
theorem own_backSL {p : Program} {l : Launch} {e : Env} {R : Room} {s : State} {args : Array Value} {below : List Frame} {Z : State} {a0 : Array Value} {EL : List (String × Nat)} {h : Heap} {vm0 : Vm} {y : MethodName} {bytes : ByteArray} {maxL : Nat} {ret : Option FieldType} {rm : Room} {len W : Nat} {as' : Array Value} {Q : Option Value → Heap → List Loc → Prop}
    {LP : Vm → Prop} {LQ : Vm → Heap → Prop} (hLP : ∀ {vm1 : Vm}, (s.setVm vm0).Warmed39 vm1 → LP vm1)
    (hM : MetFree l y (head1 [Cond.code y bytes maxL ret] rm) (fun a U => a = as' ∧ Z.Warmed39 U.vm ∧ U.heap = h ∧ CHv Z EL U.vm h ∧ LP U.vm) (fun _ _ _ _ _ => True) (fun _ U o U' => ∃ v L, o = .returned v ∧ Q v U'.heap L ∧ (CHr Z EL U.vm U.heap U'.vm U'.heap ∧ LQ U'.vm U'.heap) ∧ ReturnedEndW U o U' L rm.cells rm.slots))
    (hZ : Z.Warmed39 vm0) (wc : (Cond.code y bytes maxL ret).before a0 Z = true) (wz : (Cond.initialized y.cls).before a0 Z = true) (hf : rm.frames + 1 ≤ R.frames) (hl : W + (maxL + 11) + rm.locals ≤ R.locals) (hEL : EW Z a0 EL) (H : CHv Z EL vm0 h) :
    BackS l R p e below (s.setVm vm0) args y len W (fun A a => a = as' ∧ A.U.heap = h ∧ A.cells + rm.cells ≤ R.cells ∧ A.slots + rm.slots ≤ R.slots)
      (fun A _ v B => ∃ L, Q v B.U.heap L ∧ B.locs = A.locs ++ L ∧ B.cells = A.cells + rm.cells ∧ B.slots = A.slots + rm.slots ∧ CHr Z EL vm0 h B.U.vm B.U.heap ∧ LQ B.U.vm B.U.heap) := by
  refine BackS.of_freeW (bytes := bytes) (maxL := maxL) (ret := ret) (E := fun _ fs o t L k n => (k = rm.cells ∧ n = rm.slots) ∧ (∃ v, o = .returned v ∧ Q v t.heap L) ∧ CHr Z EL fs.vm fs.heap t.vm t.heap ∧ LQ t.vm t.heap) hM hf hl ?_ ?_ (fun _ _ _ _ _ _ _ _ _ => trivial) ?_ ?_
  · intro m meth c A a Y hp
    have hU : Z.Warmed39 A.U.vm := wtrans (s := s.setVm vm0) hZ Y.warmed
    refine ⟨?_, mv hU wc, mv hU wz, hp.2.2.1, hp.2.2.2⟩
    show (Cond.and _ .tt).before a A.U = true
    rw [Cond.before_and, mv hU wc]; rfl
  · intro m meth c A a g mk Y hp
    exact ⟨hp.1, wtrans (s := s.setVm vm0) hZ Y.warmed, hp.2.1, (CHv.at Y hZ hEL H).1, hLP (Y.warmed.since 0).1⟩
  · rintro _ _ _ _ ⟨v, L, h1, h2, h3, h4⟩
    exact ⟨L, _, _, h4, ⟨rfl, rfl⟩, ⟨v, h1, h2⟩, h3⟩
  · rintro m meth c A a g mk v t L k n Y hp - - ⟨⟨e1, e2⟩, ⟨v', e3, e4⟩, e5, e6⟩
    cases e3; subst e1 e2
    refine ⟨L, e4, rfl, rfl, rfl, (CHv.at Y hZ hEL H).trans ?_, e6⟩
    rw [← hp.2.1]; exact e5
abbrev ELs : List (String × Nat) := [("com/example/beanloft/beanloft/naming/GlobalName", 105), ("com/example/beanloft/beanloft/naming/GlobalName", 120), ("com/example/beanloft/beanloft/naming/GlobalName", 110), ("com/example/beanloft/beanloft/naming/GlobalName", 118)]
abbrev MW (la : Launch) (Z : State) (hE : Heap) (y : MethodName) (c : ByteArray) (ml : Nat) (r : Option FieldType) (ws : List Cond) (rm : Room) (A : Array Value) (Q : Option Value → Heap → List Loc → Prop) : Prop := MetFree la y (head1 (Cond.code y c ml r :: ws) rm) (fun aa UU => aa = A ∧ Z.Warmed39 UU.vm ∧ UU.heap = hE ∧ CHv Z ELs UU.vm hE) (fun _ _ _ _ _ => True) (fun _ UU oo UV => ∃ vv LL, oo = .returned vv ∧ Q vv UV.heap LL ∧ CHr Z ELs UU.vm UU.heap UV.vm UV.heap ∧ ReturnedEndW UU oo UV LL rm.cells rm.slots)
theorem own_wS {a0 : Array Value} {Z : State} (hw : HW a0 Z) : ∀ a ∈ Bundle.stringAtoms, a.before a0 Z = true := fun d hd => hw d ((by decide +kernel : ∀ d ∈ Bundle.stringAtoms, d ∈ tables_1) d hd)
theorem own_EW {a0 : Array Value} {Z : State} (hw : HW a0 Z) : EW Z a0 ELs := (EW.cons (wd78 hw) (by decide) (EW.cons (wd114 hw) (by decide) (EW.cons (wd148 hw) (by decide) (EW.cons (wd195 hw) (by decide) EW.nil))))

/-! Strings of Latin-1 chars -/
def LStr (Z : State) (h : Heap) (x t : Addr) (cs : List Int32) : Prop :=
  Exa Z h x c1_ ∧ Fld Z h x c1_ "value" "[B" (.ref t) ∧ Fld Z h x c1_ "coder" "B" (.int 0) ∧
    (∃ kb : ClassId, Arv Z h t kb .byte (Int32.ofNat cs.length) (cs.map fun c => Value.int c.toInt8.toInt32) (.int 0)) ∧ (∀ c ∈ cs, ¬ c < 0 ∧ ¬ (255 : Int32) < c) ∧ cs.length ≤ 4000
section OwnStr
variable {Z : State} {h h' : Heap} {x t : Addr} {cs : List Int32} {ws : List Addr}
theorem LStr.ext (F : LStr Z h x t cs) (E : Ext h h') : LStr Z h' x t cs := by
  obtain ⟨a, b, c, ⟨kb, d⟩, f⟩ := F; exact ⟨a.ext E, b.ext E, c.ext E, ⟨kb, d.ext E⟩, f⟩
theorem LStr.keep (F : LStr Z h x t cs) (K : Keep h h' ws) (q : x ∉ ws) (r : t ∉ ws) : LStr Z h' x t cs := by
  obtain ⟨a, b, c, ⟨kb, d⟩, f⟩ := F; exact ⟨a.keep K, b.keep K q, c.keep K q, ⟨kb, d.keep K r⟩, f⟩
theorem LStr.lt (F : LStr Z h x t cs) : x < h.size := F.1.lt
theorem LStr.ltt (F : LStr Z h x t cs) : t < h.size := by obtain ⟨_, _, _, ⟨_, d⟩, _⟩ := F; exact d.lt
theorem own_shr0 (n : Nat) : ((Int32.ofNat n) >>> ((0 : Int32) &&& 31)) = Int32.ofNat n := by
  rw [show ((0 : Int32) &&& 31) = 0 from by decide]; exact Int32.shiftRight_zero
theorem own_len_nn {n : Nat} (h : n ≤ 4000) : ¬ Int32.ofNat n < 0 := by rw [Int32.lt_iff_toInt_lt, Int32.toInt_ofNat_small (by omega)]; simp
theorem own_j0 {j : Int32} {i n : Nat} (hj : j = Int32.ofNat i) (hi : i < n) (hl : n ≤ 4000) : ¬ (j < (0 : Int32)) := by rw [hj]; exact own_len_nn (by omega)
theorem own_jn {j : Int32} {i n : Nat} (hj : j = Int32.ofNat i) (hi : i < n) (hl : n ≤ 4000) : j < Int32.ofNat n := by
  rw [hj, Int32.lt_iff_toInt_lt, Int32.toInt_ofNat_small (by omega), Int32.toInt_ofNat_small (by omega)]; omega
theorem own_jt {j : Int32} {i n : Nat} (hj : j = Int32.ofNat i) (hi : i < n) (hl : n ≤ 4000) : j.toNatClampNeg = i := by rw [hj]; exact Int32.toNatClampNeg_ofNat_of_lt (by omega)
theorem own_vs_at {i : Nat} (hi : i < cs.length) : (cs.map fun c => Value.int c.toInt8.toInt32).getD i (.int 0) = .int ((cs.getD i 0).toInt8.toInt32) := by
  simp [List.getD_eq_getElem?_getD, hi]
theorem own_getD_mem {i : Nat} (hi : i < cs.length) : cs.getD i 0 ∈ cs := by
  rw [show cs.getD i 0 = cs[i] from by simp [List.getD_eq_getElem?_getD, hi]]; exact List.getElem_mem _
theorem own_ch_bv : ∀ n, n < 256 → ((((Int32.ofNat n).toInt8.toInt32 &&& (255 : Int32)).toUInt32.toUInt16.toUInt32.toInt32).toUInt32.toUInt16.toUInt32.toInt32) = Int32.ofNat n := by decide +kernel
theorem own_ch_back {c : Int32} (h : ¬ c < 0 ∧ ¬ (255 : Int32) < c) : nar .char ((c.toInt8.toInt32 &&& (255 : Int32)).toUInt32.toUInt16.toUInt32.toInt32) = c := by
  have e := (back32 h.1).1
  have h2 : c.toNatClampNeg < 256 := by
    have := nat_of h.1; have h3 := h.2; rw [Int32.lt_iff_toInt_lt, this] at h3
    have : ¬ (255 : Int) < (c.toNatClampNeg : Int) := h3
    omega
  have := own_ch_bv c.toNatClampNeg h2
  rw [show Int32.ofNat c.toNatClampNeg = c from e] at this
  exact this
theorem own_nar_char : ∀ n, n < 65536 → nar .char (Int32.ofNat n) = Int32.ofNat n := fun n hn => by
  show (Int32.ofNat n).toUInt32.toUInt16.toUInt32.toInt32 = Int32.ofNat n
  apply Int32.toInt_inj.mp
  rw [Int32.toInt_ofNat_small (by omega)]
  have e : (Int32.ofNat n).toUInt32.toUInt16.toUInt32.toNat = n := by
    simp only [UInt16.toNat_toUInt32, UInt32.toNat_toUInt16]
    show (Int32.ofNat n).toUInt32.toNat % 2 ^ 16 = n
    rw [show (Int32.ofNat n).toUInt32 = UInt32.ofNat n from rfl, UInt32.toNat_ofNat_of_lt' (by show n < 2 ^ 32; omega)]
    omega
  show (((Int32.ofNat n).toUInt32.toUInt16.toUInt32).toInt32).toInt = _
  rw [show ((Int32.ofNat n).toUInt32.toUInt16.toUInt32).toInt32 = Int32.ofNat ((Int32.ofNat n).toUInt32.toUInt16.toUInt32.toNat) from by
    generalize (Int32.ofNat n).toUInt32.toUInt16.toUInt32 = u
    apply Int32.toBitVec_inj.mp; simp [Int32.toBitVec_ofNat], e, Int32.toInt_ofNat_small (by omega)]
theorem own_nar_c {c : Int32} (h : ¬ c < 0 ∧ ¬ (255 : Int32) < c) : nar .char c = c := by
  have e := (back32 h.1).1
  have h2 : c.toNatClampNeg < 65536 := by
    have := nat_of h.1; have h3 := h.2; rw [Int32.lt_iff_toInt_lt, this] at h3
    have : ¬ (255 : Int) < (c.toNatClampNeg : Int) := h3
    omega
  have := own_nar_char c.toNatClampNeg h2
  rw [show Int32.ofNat c.toNatClampNeg = c from e] at this
  exact this
end OwnStr
theorem own_i8 (x : Int32) : (x.toInt8.toInt32).toInt8.toInt32 = x.toInt8.toInt32 := by simp

theorem own_sc {p : Program} {l : Launch} {e : Env} {R : Room} {s : State} {m : MethodId} {args : Array Value} {below : List Frame} {meth : Method} {cd : Code} {T Z : State} {locs : List Loc} {cells slots : Nat} {h : Heap} (X : Stand p l e R s m args below meth cd T locs cells slots) (hx : p.tables.exec = Jvm.exec) (hZ : Z.Warmed39 s.vm) (eT : T.heap = h) {a : Addr} {kC : ClassId} {z : Int32} {vs : List Value} {dv : Value} (V : Arv Z h a kC .char z vs dv)
    (i : Nat) {c j : Int32} (hc : nar .char c = c) (hj : j.toNatClampNeg = i) (hin : ¬ j < 0 ∧ j < z) (hi : i < vs.length) {n0 : Nat} (N : Fr n0 locs) (ga : n0 ≤ a) {g : JFrame} (hg : g.method = m) {rest : List Value} (hs : g.stack = .int c :: .int j :: .ref a :: rest) (hd : decode cd.code g.pc = .ok (.castore, 1)) :
    ∃ T' h' L', Stand p l e R s m args below meth cd T' L' cells slots ∧ T'.heap = h' ∧ Fr n0 L' ∧ Keep h h' [a] ∧ Arv Z h' a kC .char z (vs.set i (.int c)) dv ∧ ∀ target, Steps p.tables e below (T'.setTop { g with pc := g.pc + 1, stack := rest }) target → Steps p.tables e below (T.setTop g) target := by
  obtain ⟨cl, Ar, q1, Sz, Nn, H, G⟩ := V
  obtain ⟨T', h', X', e', W, st⟩ := stC X hx hZ eT Ar (inb_of Sz hin) hg hs hd
  rw [hc] at W
  exact ⟨T', h', _, X', e', Fr.snoc X' N ga, Keep.of_wr W, Arv.set Ar q1 Sz Nn H G (by rw [← hc]; exact fits_nar_char c) W i hj hi, st⟩

/-! StringBuilders of Latin-1 chars -/
abbrev bys (cs : List Int32) : List Value := cs.map fun c => Value.int c.toInt8.toInt32
abbrev pads (cap : Nat) (cs : List Int32) : List Value := bys cs ++ List.replicate (cap - cs.length) (.int 0)
def SBl (Z : State) (h : Heap) (b t : Addr) (cap : Nat) (cs : List Int32) : Prop :=
  Exa Z h b c3_ ∧ Fld Z h b c2_ "value" "[B" (.ref t) ∧ Fld Z h b c2_ "coder" "B" (.int 0) ∧ Fld Z h b c2_ "count" "I" (.int (Int32.ofNat cs.length)) ∧
    (∃ kb : ClassId, Arv Z h t kb .byte (Int32.ofNat cap) (pads cap cs) (.int 0)) ∧ Exa Z h t "[B" ∧ (∀ c ∈ cs, ¬ c < 0 ∧ ¬ (255 : Int32) < c) ∧ cs.length ≤ cap ∧ cap ≤ 120
section OwnSB
variable {Z : State} {h h' : Heap} {b t : Addr} {cap : Nat} {cs ds : List Int32} {ws : List Addr}
theorem SBl.ext (F : SBl Z h b t cap cs) (E : Ext h h') : SBl Z h' b t cap cs := by
  obtain ⟨a, v, c, n, ⟨kb, d⟩, x, f⟩ := F; exact ⟨a.ext E, v.ext E, c.ext E, n.ext E, ⟨kb, d.ext E⟩, x.ext E, f⟩
theorem SBl.keep (F : SBl Z h b t cap cs) (K : Keep h h' ws) (q : b ∉ ws) (r : t ∉ ws) : SBl Z h' b t cap cs := by
  obtain ⟨a, v, c, n, ⟨kb, d⟩, x, f⟩ := F; exact ⟨a.keep K, v.keep K q, c.keep K q, n.keep K q, ⟨kb, d.keep K r⟩, x.keep K, f⟩
theorem SBl.lt (F : SBl Z h b t cap cs) : b < h.size := F.1.lt
theorem SBl.ltt (F : SBl Z h b t cap cs) : t < h.size := by obtain ⟨_, _, _, _, ⟨_, d⟩, _⟩ := F; exact d.lt
theorem own_sh0 (x : Int32) : (x >>> ((0 : Int32) &&& 31)) = x := by rw [show ((0 : Int32) &&& 31) = 0 from by decide]; exact Int32.shiftRight_zero
theorem own_shl0 (x : Int32) : (x <<< ((0 : Int32) &&& 31)) = x := by rw [show ((0 : Int32) &&& 31) = 0 from by decide]; exact Int32.shiftLeft_zero
theorem own_n32 {n : Nat} (h : n ≤ 4000) : (Int32.ofNat n).toNatClampNeg = n := Int32.toNatClampNeg_ofNat_of_lt (by omega)
theorem own_add32 (a b : Nat) : Int32.ofNat a + Int32.ofNat b = Int32.ofNat (a + b) := (Int32.ofNat_add a b).symm
theorem own_lt32 {a b : Nat} (ha : a ≤ 4000) (hb : b ≤ 4000) : Int32.ofNat a < Int32.ofNat b ↔ a < b := by
  rw [Int32.lt_iff_toInt_lt, Int32.toInt_ofNat_small (by omega), Int32.toInt_ofNat_small (by omega)]; omega
theorem own_eq32 {a b : Nat} (ha : a ≤ 4000) (hb : b ≤ 4000) : Int32.ofNat a = Int32.ofNat b ↔ a = b := ⟨fun q => by
  have := congrArg Int32.toInt q; rw [Int32.toInt_ofNat_small (by omega), Int32.toInt_ofNat_small (by omega)] at this; omega, fun q => by rw [q]⟩
theorem own_sub32 {a b : Nat} (h : b ≤ a) : Int32.ofNat a - Int32.ofNat b = Int32.ofNat (a - b) := (Int32.ofNat_sub _ _ h).symm
theorem own_gap {n cap : Nat} (hn : n ≤ 4000) (hc : cap ≤ 4000) : (0 : Int32) < Int32.ofNat n - Int32.ofNat cap ↔ cap < n := by
  rw [Int32.lt_iff_toInt_lt, Int32.toInt_sub, Int32.toInt_ofNat_small (by omega), Int32.toInt_ofNat_small (by omega), Int.bmod_eq_of_le (by omega) (by omega)]
  show (0 : Int) < _ ↔ _; omega
theorem own_us {vs : List Value} {d : Value} {n : Nat} (h : n = vs.length) : vs = (List.range n).map fun i => vs.getD (0 + i) d := by
  subst h; apply List.ext_getElem
  · simp
  · intro i h1 h2; simp [List.getD_eq_getElem?_getD, h1]
theorem own_us_take {vs : List Value} {d : Value} {n : Nat} (h : n ≤ vs.length) : vs.take n = (List.range n).map fun i => vs.getD (0 + i) d := by
  apply List.ext_getElem
  · simp [h]
  · intro i h1 h2
    have h3 : i < n := by simpa using h2
    simp [List.getD_eq_getElem?_getD, show i < vs.length by omega]
theorem own_pads_len (h : cs.length ≤ cap) : (pads cap cs).length = cap := by simp [pads, bys]; omega
theorem own_bys_len (cs : List Int32) : (bys cs).length = cs.length := by simp [bys]
theorem own_bys_take (cs : List Int32) : (bys cs).take cs.length = bys cs := List.take_of_length_le (Nat.le_of_eq (own_bys_len cs))
theorem own_pads_take : (pads cap cs).take cs.length = bys cs := by
  unfold pads; rw [List.take_append_of_le_length (Nat.le_of_eq (own_bys_len cs).symm), own_bys_take]
theorem own_pads_put (h : cs.length + ds.length ≤ cap) : (pads cap cs).take cs.length ++ bys ds ++ (pads cap cs).drop (cs.length + ds.length) = pads cap (cs ++ ds) := by
  rw [own_pads_take]
  have e2 : (pads cap cs).drop (cs.length + ds.length) = List.replicate (cap - (cs.length + ds.length)) (Value.int 0) := by
    unfold pads
    rw [List.drop_append, List.drop_of_length_le (by rw [own_bys_len]; omega), List.nil_append, own_bys_len, List.drop_replicate]
    congr 1; omega
  rw [e2]
  unfold pads
  rw [List.length_append, show bys (cs ++ ds) = bys cs ++ bys ds from List.map_append]
theorem own_pads_grow {c2 : Nat} (h1 : cs.length ≤ cap) (h2 : cap ≤ c2) : ([] ++ List.replicate c2 (Value.int 0)).take 0 ++ pads cap cs ++ ([] ++ List.replicate c2 (Value.int 0)).drop (0 + cap) = pads c2 cs := by
  simp [pads, bys, List.append_assoc, List.replicate_append_replicate]; omega
theorem own_pads_cut (h : cs.length ≤ cap) : ([] ++ List.replicate cs.length (Value.int 0)).take 0 ++ (pads cap cs).take cs.length ++ ([] ++ List.replicate cs.length (Value.int 0)).drop (0 + cs.length) = bys cs := by
  rw [own_pads_take]; simp
theorem own_pads_full (h : cs.length = cap) : pads cap cs = bys cs := by simp [pads, h]
theorem own_bd_app (h1 : ∀ c ∈ cs, ¬ c < 0 ∧ ¬ (255 : Int32) < c) (h2 : ∀ c ∈ ds, ¬ c < 0 ∧ ¬ (255 : Int32) < c) : ∀ c ∈ cs ++ ds, ¬ c < 0 ∧ ¬ (255 : Int32) < c := fun c hc => (List.mem_append.mp hc).elim (h1 c) (h2 c)
def ncap (cap n : Nat) : Nat := if n - cap < cap + 2 then 2 * cap + 2 else n
theorem own_ncap {n : Nat} (h : cap < n) (hn : n ≤ 120) (hc : cap ≤ 50) : n ≤ ncap cap n ∧ cap < ncap cap n ∧ ncap cap n ≤ 120 := by unfold ncap; split <;> omega
theorem own_newlen {n : Nat} (h : cap < n) (hn : n ≤ 120) (hc : cap ≤ 50) : (Int32.ofNat cap + (if (Int32.ofNat n - Int32.ofNat cap) < (Int32.ofNat cap + (2 : Int32)) then (Int32.ofNat cap + (2 : Int32)) else (Int32.ofNat n - Int32.ofNat cap))) = Int32.ofNat (ncap cap n) := by
  rw [own_sub32 (by omega), show (2 : Int32) = Int32.ofNat 2 from rfl, own_add32]
  unfold ncap
  by_cases q : n - cap < cap + 2
  · rw [if_pos ((own_lt32 (by omega) (by omega)).mpr q), if_pos q, own_add32]; congr 1; omega
  · rw [if_neg (fun z => q ((own_lt32 (by omega) (by omega)).mp z)), if_neg q, own_add32]; congr 1; omega
theorem own_big {n : Nat} (h : n ≤ 4000) : ¬ ((2147483639 : Int32) < Int32.ofNat n) := by
  rw [Int32.lt_iff_toInt_lt, Int32.toInt_ofNat_small (by omega), show (2147483639 : Int32).toInt = 2147483639 from by decide]; omega
theorem own_max {n : Nat} (h : n ≤ 4000) : ¬ (Int32.ofNat n = (2147483647 : Int32)) := fun q => by
  have := congrArg Int32.toInt q; rw [Int32.toInt_ofNat_small (by omega), show (2147483647 : Int32).toInt = 2147483647 from by decide] at this; omega
end OwnSB

theorem own_ch_byte {c : Int32} (hn : ¬ (c < (0 : Int32))) (hb : ¬ ((255 : Int32) < c)) {k : Int32} (hk : ¬ (k < (0 : Int32)) ∧ k < (128 : Int32)) (h : ¬ (c = k)) : ¬ ((c.toInt8.toInt32) = k) := fun q => h (by
  have e := own_ch_back ⟨hn, hb⟩
  rw [q] at e
  rw [← e]
  have e2 := (back32 hk.1).1
  have h2 : k.toNatClampNeg < 128 := by have := hk.2; rw [Int32.lt_iff_toInt_lt, nat_of hk.1] at this; have : ((k.toNatClampNeg : Nat) : Int) < 128 := this; omega
  have key : ∀ n, n < 128 → nar .char ((Int32.ofNat n &&& (255 : Int32)).toUInt32.toUInt16.toUInt32.toInt32) = Int32.ofNat n := by decide +kernel
  have := key k.toNatClampNeg h2
  rw [show Int32.ofNat k.toNatClampNeg = k from e2] at this
  exact this)
def chF (q : Int32) : Int32 := if (q &&& (255 : Int32)) = (47 : Int32) then 48 else if (q &&& (255 : Int32)) = (33 : Int32) then 34 else (q &&& (255 : Int32))
theorem own_m255 (q : Int32) : ¬ ((q &&& (255 : Int32)) < (0 : Int32)) ∧ ¬ ((255 : Int32) < (q &&& (255 : Int32))) := by
  have e := Jvm.Kit.i32_mask q 255 (k := 8) (by decide) (by decide)
  have h1 := Int.emod_nonneg q.toInt (show (2 : Int) ^ 8 ≠ 0 by decide)
  have h2 := Int.emod_lt_of_pos q.toInt (show (0 : Int) < 2 ^ 8 by decide)
  rw [Int32.lt_iff_toInt_lt, Int32.lt_iff_toInt_lt, e]
  constructor
  · show ¬ _ < (0 : Int); omega
  · show ¬ (255 : Int) < _; omega
theorem own_chB (q : Int32) : ¬ (chF q < (0 : Int32)) ∧ ¬ ((255 : Int32) < chF q) ∧ ¬ (chF q = (47 : Int32)) ∧ ¬ (chF q = (33 : Int32)) := by
  unfold chF; split
  · decide
  · split
    · decide
    · exact ⟨(own_m255 q).1, (own_m255 q).2, by assumption, by assumption⟩
theorem own_ch47 {q : Int32} (h : (q &&& (255 : Int32)) = (47 : Int32)) : nar .char ((((q &&& (255 : Int32)) + (1 : Int32))).toUInt32.toUInt16.toUInt32.toInt32) = chF q := by unfold chF; rw [if_pos h, h]; decide
theorem own_ch33 {q : Int32} (h1 : ¬ (q &&& (255 : Int32)) = (47 : Int32)) (h : (q &&& (255 : Int32)) = (33 : Int32)) : nar .char ((((q &&& (255 : Int32)) + (1 : Int32))).toUInt32.toUInt16.toUInt32.toInt32) = chF q := by unfold chF; rw [if_neg h1, if_pos h, h]; decide
theorem own_ch0 {q : Int32} (h1 : ¬ (q &&& (255 : Int32)) = (47 : Int32)) (h2 : ¬ (q &&& (255 : Int32)) = (33 : Int32)) : nar .char (((q &&& (255 : Int32))).toUInt32.toUInt16.toUInt32.toInt32) = chF q := by
  unfold chF; rw [if_neg h1, if_neg h2, i2c_mask]; exact own_nar_c (own_m255 q)

theorem own_up {cs : List Int32} (h : ∀ c ∈ cs, ¬ c < 0 ∧ ¬ (255 : Int32) < c) : ∀ c ∈ cs, ¬ c < 0 ∧ ¬ (65535 : Int32) < c := fun c hc => ⟨(h c hc).1, fun q => (h c hc).2 (by
  rw [Int32.lt_iff_toInt_lt] at q ⊢
  have a1 : (65535 : Int32).toInt = 65535 := by decide
  have a2 : (255 : Int32).toInt = 255 := by decide
  omega)⟩
theorem own_cod {cs : List Int32} (h : ∀ c ∈ cs, ¬ c < 0 ∧ ¬ (255 : Int32) < c) : StrChars.Road.CodA cs 0 (Int32.ofNat cs.length) (cs.map fun c => Value.int c.toInt8.toInt32) := Or.inl ⟨rfl, rfl, rfl, fun c hc => (h c hc).2⟩

theorem own_ixtab {a0 : Array Value} {Z : State} (hw : HW a0 Z) {s : State} {args : Array Value} (hZ : Z.Warmed39 s.vm) : Jvm.Free.Str.IXS.tab.before args s = true := Jvm.SetKit.of_leaves _ fun w h => mv hZ (hw w ((by decide +kernel : ∀ w ∈ Jvm.SetKit.leaves Jvm.Free.Str.IXS.tab, w ∈ tables_1) w h)) ((by decide +kernel : ∀ w ∈ Jvm.SetKit.leaves Jvm.Free.Str.IXS.tab, (w.onTables && w.keepsFace) = true) w h)
theorem own_intAt {c : Cell} {i : Nat} {v : Int32} (h : c.slots[i]? = some (.int v)) : Jvm.Lib.StringLatin1.equals.intAt c i = v := by
  have := Jvm.Lib.StringLatin1.equals.intAt_spec ⟨v, h⟩
  rw [h] at this; exact (Value.int.inj (Option.some.inj this)).symm
theorem own_ixq {Z U : State} {h : Heap} {t u : Addr} {kt ku : ClassId} {cs : List Int32} {D : Int32} (al : Z.vm.Alike U.vm) (eU : U.heap = h) (V : Arv Z h t kt .byte (Int32.ofNat cs.length) (cs.map fun c => Value.int c.toInt8.toInt32) (.int 0)) (V2 : Arv Z h u ku .byte (1 : Int32) [(.int D)] (.int 0)) (hl : cs.length ≤ 4000) (hd : ∀ c ∈ cs, ¬ ((c.toInt8.toInt32) = D)) :
    ∃ q : Addr × Cell × Nat × Addr × Cell × Nat × Nat, Jvm.Free.Str.IXS.P q.1 q.2.1 q.2.2.1 q.2.2.2.1 q.2.2.2.2.1 q.2.2.2.2.2.1 q.2.2.2.2.2.2 #[.ref t, .int (Int32.ofNat cs.length), .ref u, .int 1, .int 0] U ∧ Jvm.Free.Str.IXS.ans q.2.1 q.2.2.2.2.1 q.2.2.1 q.2.2.2.2.2.1 q.2.2.2.2.2.2 = (-1 : Int32) := by
  subst eU
  obtain ⟨A, a1, -, a3, -, a5, -⟩ := V
  obtain ⟨B, b1, -, b3, -, b5, -⟩ := V2
  rw [own_n32 hl] at a3
  have b3' : B.slots.size = 1 := b3
  have hA : ∀ i, i < A.slots.size → A.slots[i]? = some (.int ((cs.getD i 0).toInt8.toInt32)) := fun i hi => by rw [a5 i hi, own_vs_at (by omega)]
  have hB : B.slots[0]? = some (.int D) := by rw [b5 0 (by omega)]; rfl
  have iA : ∀ i, i < A.slots.size → Jvm.Lib.StringLatin1.equals.intAt A i = (cs.getD i 0).toInt8.toInt32 := fun i hi => own_intAt (hA i hi)
  have iB : Jvm.Lib.StringLatin1.equals.intAt B 0 = D := own_intAt hB
  have y1 : Jvm.Free.StrEq.SL1E.Bytes t A U := ⟨a1.1, State.isArrayOf_alike al a1.2.1, a1.2.2, by omega, fun i hi => by rw [iA i hi]; exact hA i hi⟩
  have y2 : Jvm.Free.StrEq.SL1E.Bytes u B U := ⟨b1.1, State.isArrayOf_alike al b1.2.1, b1.2.2, by omega, fun i hi => by
    obtain rfl : i = 0 := by omega
    rw [iB]; exact hB⟩
  have y3 : cs.length + 1 < 2 ^ 31 := by omega
  have y4 : (0 : Nat) < 2 ^ 31 := by decide
  refine ⟨(t, A, cs.length, u, B, 1, 0), ⟨rfl, y1, y2, Nat.le_of_eq a3.symm, y3, Nat.le_refl _, Nat.le_of_eq b3'.symm, y4⟩, ?_⟩
  show Jvm.Free.Str.findFrom (Jvm.Lib.StringLatin1.equals.intAt A) (Jvm.Lib.StringLatin1.equals.intAt B) 1 0 (cs.length + 1 - 1 - 0) = -1
  rcases Jvm.Free.Str.findFrom_spec (Jvm.Lib.StringLatin1.equals.intAt A) (Jvm.Lib.StringLatin1.equals.intAt B) 1 (cs.length + 1 - 1 - 0) 0 with q | ⟨j, -, j2, -, j4, -⟩
  · exact q.1
  · have hj : j < cs.length := by omega
    have e := (Jvm.Free.Str.matchFrom_spec _ _ j 1 0).mp j4 0 (Nat.le_refl _) (by decide)
    rw [Nat.add_zero, iA j (by omega), iB] at e
    exact absurd e (hd _ (own_getD_mem hj))
theorem own_ne0 {n : Nat} (h : n ≠ 0) (hl : n ≤ 4000) : ¬ (Int32.ofNat n = (0 : Int32)) := fun q => h ((own_eq32 (a := n) (b := 0) hl (by omega)).mp q)

theorem dj0_0 : decode jc0 0 = .ok (.getstatic 38, 3) := by decide +kernel
theorem dj0_3 : decode jc0 3 = .ok (.ifCond .eq 10, 3) := by decide +kernel
theorem dj0_6 : decode jc0 6 = .ok (.aload_n 0, 1) := by decide +kernel
theorem dj0_7 : decode jc0 7 = .ok (.getfield 15, 3) := by decide +kernel
theorem dj0_10 : decode jc0 10 = .ok (.goto 4, 3) := by decide +kernel
theorem dj0_14 : decode jc0 14 = .ok (.ireturn, 1) := by decide +kernel
theorem pn_java_lang_String : plainName "java/lang/String" = true := by first | (simp [plainName, overriddenIn]; done) | decide +kernel
theorem ef_coder (mi : MethodId) (x : Addr) : entryFrame mi #[(.ref x)] 1 = mkF mi 0 #[.val (.ref x)] [] := rfl
def Q_coder (Z : State) (x : Addr) (zc : Int32) (hE : Heap) (n0 : Nat) (vv : Option Value) (hh : Heap) (LL : List Loc) : Prop := (vv = some (.int 0)) ∧ (Fr n0 LL) ∧ (hh = hE)
theorem rm_coder (hw : HW a0 Z) (ws : List Cond) (x : Addr) (zc : Int32) (hE : Heap) (n0 : Nat) (O : Old Z n0 hE) (P0_ : Fld Z hE x c1_ "coder" "B" (.int 0)) (D0_ : Sta Z Z.heap c1_ c6_ "Z" (.int zc)) (hzc : ¬ (zc = (0 : Int32))) :
    MF la Z hE mn0 jc0 1 (some .byte) ws (rr 0 0 0 0) #[(.ref x)] (Q_coder Z x zc hE n0) := by
  refine MetFree.of_bodySF (plainFor_of_name pn_java_lang_String) hisR ?_
  intro pg ev sb mi gs below me cd s₁ Bd hml0 hPt hKt
  obtain ⟨rfl, hZ, hh⟩ := hPt
  have hx := Bd.exec
  have hby := Bd.bytes
  have hml : cd.maxLocals = 1 := hml0
  have hown : sb.vm.findClass c1_ = some mi.cls := findClass_of_methodNamed Bd.named
  have X0 : Stand pg la ev (rr 0 0 0 0) sb mi #[(.ref x)] below me cd s₁ [] 0 0 := Stand.of_body Bd
  have eE : s₁.heap = hE := by rw [← hh, Bd.state]; rfl
  have N0 := Fr.nil n0
  have pre0 : ∀ tt, SP pg ev below (s₁.setTop (mkF mi 0 #[.val (.ref x)] [])) tt → SP pg ev below (s₁.setTop (entryFrame mi #[(.ref x)] 1)) tt := fun tt kk => castTop (ef_coder mi x) kk
  obtain ⟨T101, X101, e101, st101⟩ := getS2 X0 hx hZ hown (host := "") (Or.inl (wd18 hw)) Via.refl eE (D0_.ext O.2) (g := (mkF mi 0 #[.val (.ref x)] [])) rfl (hb hby dj0_0)
  obtain ⟨T102, X102, e102, st102⟩ := getF X101 hx hZ hown (host := "") (Or.inl (wd30 hw)) Via.refl e101 P0_ (g := (mkF mi 7 #[.val (.ref x)] [(.ref x)])) rfl rfl (hb hby dj0_7)
  obtain ⟨fs, hr, hrun, hended, hW, hsame⟩ := X102.leave (v := some (.int 0)) (fun hq => by rw [Bd.returns] at hq; cases hq)
  refine ⟨_, _, pre0 _ ?_, hrun, hended, _, _, rfl, ?_, ⟨_, rfl⟩, hW, hsame.mono (by decide) (by decide)⟩
  · show SP pg ev below (s₁.setTop (mkF mi 0 #[.val (.ref x)] [])) _
    refine st101 _ ?_
    refine XS.ifNo X101.here hx rfl (hb hby dj0_3) rfl ((if0 _ _).trans (feq hzc).1) ?_
    refine XS.aloadN X101.here hx rfl (hb hby dj0_6) rfl rfl ?_
    refine st102 _ ?_
    refine XS.goto X102.here hx rfl (pc0 := 10) (pc' := 14) rfl (hb hby dj0_10) (by decide) (by decide) ?_
    show SP pg ev below (T102.setTop (mkF mi 14 #[.val (.ref x)] [(.int 0)])) _
    exact retN X102 hx (t := .byte) Bd.returns (by simp) (hb hby dj0_14) hr
  · show Q_coder Z x zc hE n0 _ T102.heap _
    rw [e102]
    exact ⟨rfl, N0, rfl⟩
theorem dj11_0 : decode jc11 0 = .ok (.aload_n 0, 1) := by decide +kernel
theorem dj11_1 : decode jc11 1 = .ok (.getfield 9, 3) := by decide +kernel
theorem dj11_4 : decode jc11 4 = .ok (.arraylength, 1) := by decide +kernel
theorem dj11_5 : decode jc11 5 = .ok (.aload_n 0, 1) := by decide +kernel
theorem dj11_6 : decode jc11 6 = .ok (.invokevirtual 335, 3) := by decide +kernel
theorem dj11_9 : decode jc11 9 = .ok (.ishr, 1) := by decide +kernel
theorem dj11_10 : decode jc11 10 = .ok (.ireturn, 1) := by decide +kernel
theorem pd_0 : parseMethodDescriptor "()B" = some ⟨[], some .byte⟩ := by decide +kernel
theorem ef_slen (mi : MethodId) (x : Addr) : entryFrame mi #[(.ref x)] 1 = mkF mi 0 #[.val (.ref x)] [] := rfl
def Q_slen (Z : State) (x t : Addr) (cs : List Int32) (zc : Int32) (hE : Heap) (n0 : Nat) (vv : Option Value) (hh : Heap) (LL : List Loc) : Prop := (vv = some (.int (Int32.ofNat cs.length))) ∧ (Fr n0 LL) ∧ (hh = hE)
theorem rm_slen (hw : HW a0 Z) (ws : List Cond) (x t : Addr) (cs : List Int32) (zc : Int32) (hE : Heap) (n0 : Nat) (O : Old Z n0 hE) (P0_ : LStr Z hE x t cs) (D0_ : Sta Z Z.heap c1_ c6_ "Z" (.int zc)) (hzc : ¬ (zc = (0 : Int32))) :
    MF la Z hE mn1 jc11 1 (some .int) ws (rr 1 0 0 13) #[(.ref x)] (Q_slen Z x t cs zc hE n0) := by
  refine MetFree.of_bodySF (plainFor_of_name pn_java_lang_String) hisR ?_
  intro pg ev sb mi gs below me cd s₁ Bd hml0 hPt hKt
  obtain ⟨rfl, hZ, hh⟩ := hPt
  have hx := Bd.exec
  have hby := Bd.bytes
  have hml : cd.maxLocals = 1 := hml0
  have hown : sb.vm.findClass c1_ = some mi.cls := findClass_of_methodNamed Bd.named
  have X0 : Stand pg la ev (rr 1 0 0 13) sb mi #[(.ref x)] below me cd s₁ [] 0 0 := Stand.of_body Bd
  have eE : s₁.heap = hE := by rw [← hh, Bd.state]; rfl
  have N0 := Fr.nil n0
  have pre0 : ∀ tt, SP pg ev below (s₁.setTop (mkF mi 0 #[.val (.ref x)] [])) tt → SP pg ev below (s₁.setTop (entryFrame mi #[(.ref x)] 1)) tt := fun tt kk => castTop (ef_slen mi x) kk
  obtain ⟨sE101, sV101, sC101, ⟨kb101, sK101⟩, sb101, sl101⟩ := id P0_
  obtain ⟨T102, X102, e102, st102⟩ := getF X0 hx hZ hown (host := "") (Or.inl (wd32 hw)) Via.refl eE sV101 (g := (mkF mi 1 #[.val (.ref x)] [(.ref x)])) rfl rfl (hb hby dj11_1)
  obtain ⟨cl103, Ar103, -, Sz103, Nn103, -, -⟩ := id sK101
  obtain ⟨cq104, kq104, q104a, q104b, q104c⟩ := isOf hZ e102 sE101
  obtain ⟨v104, _, ⟨T104, L104, k104, n104⟩, -, X104, ⟨Lc104, hQ104, l104, y104, z104⟩, st104⟩ := X102.virtualBack hx (y := mn0) (z := mn0) hown (mvT hZ (wd98 hw)) (mvT hZ (wd99 hw)) (notFace_of_selects (args := #[]) (mvT hZ (wd101 hw))) (mvT hZ (wd101 hw)) (mvT hZ (wd100 hw)) (by decide) (backOf (W := 1) (rm_coder la Z a0 hw [] x zc hE n0 O sC101 D0_ (hzc : ¬ (zc = (0 : Int32)))) hZ (wd102 hw) (wd6 hw) (by decide) (by decide)) q104a q104c (g := (mkF mi 6 #[.val (.ref x)] [(.ref x), (.int (Int32.ofNat cs.length))])) rfl (by rw [hml]; rfl) (Steps.refl _) (argsL := []) (rest := [(.int (Int32.ofNat cs.length))]) (lenOf pd_0 rfl) rfl (Nat.le_of_ble_eq_true rfl) (hb hby dj11_6) (fun _ _ => ⟨rfl, e102, (by decide : 0 + 0 ≤ _), (by decide : 0 + 0 ≤ _)⟩)
  dsimp only [Pt.U, Pt.locs, Pt.cells, Pt.slots] at X104 l104 y104 z104 st104 hQ104
  subst l104 y104 z104
  obtain ⟨rfl, Nq104, ek104⟩ := hQ104
  have N104 := Fr.app N0 Nq104
  obtain ⟨fs, hr, hrun, hended, hW, hsame⟩ := X104.leave (v := some (.int ((Int32.ofNat cs.length) >>> ((0 : Int32) &&& 31)))) (fun hq => by rw [Bd.returns] at hq; cases hq)
  refine ⟨_, _, pre0 _ ?_, hrun, hended, _, _, rfl, ?_, ⟨_, rfl⟩, hW, hsame.mono (by decide) (by decide)⟩
  · show SP pg ev below (s₁.setTop (mkF mi 0 #[.val (.ref x)] [])) _
    refine XS.aloadN X0.here hx rfl (hb hby dj11_0) rfl rfl ?_
    refine st102 _ ?_
    refine X102.arraylength hx (cell := cl103) (by rw [e102]; exact Ar103.1) (State.isArrayOf_alike hZ.alike Ar103.2.1) (g := (mkF mi 4 #[.val (.ref x)] [(.ref t)])) rfl (rest := []) rfl (hb hby dj11_4) _ ?_
    rw [len_of Sz103 Nn103]
    refine XS.aloadN X102.here hx rfl (hb hby dj11_5) rfl rfl ?_
    refine st104.trans ?_
    refine XS.ishr X104.here hx rfl (hb hby dj11_9) rfl ?_
    show SP pg ev below (T104.setTop (mkF mi 10 #[.val (.ref x)] [(.int ((Int32.ofNat cs.length) >>> ((0 : Int32) &&& 31)))])) _
    exact retI X104 hx Bd.returns (hb hby dj11_10) hr
  · show Q_slen Z x t cs zc hE n0 _ T104.heap _
    rw [ek104]
    exact ⟨(congrArg (fun z => some (Value.int z)) (own_shr0 cs.length)), N104, rfl⟩
theorem dj30_0 : decode jc30 0 = .ok (.aload_n 0, 1) := by decide +kernel
theorem dj30_1 : decode jc30 1 = .ok (.invokespecial 3, 3) := by decide +kernel
theorem dj30_4 : decode jc30 4 = .ok (.getstatic 18, 3) := by decide +kernel
theorem dj30_7 : decode jc30 7 = .ok (.ifCond .eq 18, 3) := by decide +kernel
theorem dj30_10 : decode jc30 10 = .ok (.aload_n 0, 1) := by decide +kernel
theorem dj30_11 : decode jc30 11 = .ok (.iload_n 1, 1) := by decide +kernel
theorem dj30_12 : decode jc30 12 = .ok (.newarray .byte, 2) := by decide +kernel
theorem dj30_14 : decode jc30 14 = .ok (.putfield 15, 3) := by decide +kernel
theorem dj30_17 : decode jc30 17 = .ok (.aload_n 0, 1) := by decide +kernel
theorem dj30_18 : decode jc30 18 = .ok (.iconst 0, 1) := by decide +kernel
theorem dj30_19 : decode jc30 19 = .ok (.putfield 22, 3) := by decide +kernel
theorem dj30_22 : decode jc30 22 = .ok (.goto 16, 3) := by decide +kernel
theorem dj30_38 : decode jc30 38 = .ok (.return_, 1) := by decide +kernel
theorem pn_java_lang_AbstractStringBuilder : plainName "java/lang/AbstractStringBuilder" = true := by first | (simp [plainName, overriddenIn]; done) | decide +kernel
theorem ef_asbi (mi : MethodId) (b : Addr) : entryFrame mi #[(.ref b), (.int 16)] 2 = mkF mi 0 #[.val (.ref b), .val (.int 16)] [] := rfl
def Q_asbi (Z : State) (b : Addr) (zc : Int32) (hE : Heap) (n0 : Nat) (vv : Option Value) (hh : Heap) (LL : List Loc) : Prop := ∃ t : Addr, (vv = none) ∧ (Fr n0 LL) ∧ (Keep hE hh [b]) ∧ (hE.size ≤ t) ∧ (SBl Z hh b t 16 ([] : List Int32))
theorem rm_asbi (hw : HW a0 Z) (ws : List Cond) (b : Addr) (zc : Int32) (hE : Heap) (n0 : Nat) (O : Old Z n0 hE) (P0_ : Exa Z hE b c3_) (P1_ : Fld Z hE b c2_ "value" "[B" .null) (P2_ : Fld Z hE b c2_ "coder" "B" (.int 0)) (P3_ : Fld Z hE b c2_ "count" "I" (.int 0)) (D0_ : Sta Z Z.heap c1_ c6_ "Z" (.int zc)) (g_b : n0 ≤ b) (hzc : ¬ (zc = (0 : Int32))) :
    MF la Z hE mn2 jc30 2 none ws (rr 1 1 16 12) #[(.ref b), (.int 16)] (Q_asbi Z b zc hE n0) := by
  refine MetFree.of_bodySF (plainFor_of_name pn_java_lang_AbstractStringBuilder) hisR ?_
  intro pg ev sb mi gs below me cd s₁ Bd hml0 hPt hKt
  obtain ⟨rfl, hZ, hh⟩ := hPt
  have hx := Bd.exec
  have hby := Bd.bytes
  have hml : cd.maxLocals = 2 := hml0
  have hown : sb.vm.findClass c2_ = some mi.cls := findClass_of_methodNamed Bd.named
  have X0 : Stand pg la ev (rr 1 1 16 12) sb mi #[(.ref b), (.int 16)] below me cd s₁ [] 0 0 := Stand.of_body Bd
  have eE : s₁.heap = hE := by rw [← hh, Bd.state]; rfl
  have N0 := Fr.nil n0
  have pre0 : ∀ tt, SP pg ev below (s₁.setTop (mkF mi 0 #[.val (.ref b), .val (.int 16)] [])) tt → SP pg ev below (s₁.setTop (entryFrame mi #[(.ref b), (.int 16)] 2)) tt := fun tt kk => castTop (ef_asbi mi b) kk
  obtain ⟨T101, X101, e101, st101⟩ := initO X0 hx hZ hown (wd142 hw) (wd16 hw) (wd17 hw) eE (g := (mkF mi 1 #[.val (.ref b), .val (.int 16)] [(.ref b)])) rfl (by rw [hml]; rfl) rfl (hb hby dj30_1) (by decide) (W := 0) (Nat.le_of_ble_eq_true rfl) (by decide)
  obtain ⟨T102, X102, e102, st102⟩ := getS2 X101 hx hZ hown (host := "") (Or.inl (wd143 hw)) Via.refl e101 (D0_.ext O.2) (g := (mkF mi 4 #[.val (.ref b), .val (.int 16)] [])) rfl (hb hby dj30_4)
  obtain ⟨T103, h103, k103, X103, e103, E103, A103, B103, st103⟩ := newPE (aty := .byte) X102 hx hZ (wd23 hw) e102 (g := (mkF mi 12 #[.val (.ref b), .val (.int 16)] [(.int 16), (.ref b)])) rfl (hb hby dj30_12) rfl (by decide) (cap := 16) (by decide) (by decide) (by decide) (by decide) (ad := "[B") (by decide)
  obtain ⟨b103, q103⟩ : ∃ z, z = hE.size := ⟨_, rfl⟩
  rw [← q103] at A103 B103 st103
  have f104 : Arv Z h103 b103 k103 .byte (16 : Int32) ([] ++ List.replicate (16) (.int 0)) (.int 0) := (Arv.new A103 (by decide)).pad (pad_rep [] (.int 0) (16))
  have f105 : Exa Z h103 b c3_ := (P0_.ext E103)
  have f106 : Fld Z h103 b c2_ "value" "[B" .null := (P1_.ext E103)
  obtain ⟨T107, h107, X107, e107, W107, st107⟩ := putF X103 hx hZ hown (host := "") (Or.inl (wd144 hw)) Via.refl e103 f106 f105 (Or.inl (wd145 hw)) (wd131 hw) (ty := (.array .byte)) (by decide) rfl rfl (g := (mkF mi 14 #[.val (.ref b), .val (.int 16)] [(.ref b103), (.ref b)])) rfl rfl (hb hby dj30_14)
  have N107 := Fr.snoc X107 N0 g_b
  have f108 : Fld Z h107 b c2_ "value" "[B" (.ref b103) := f106.same W107
  have f109 : Exa Z h107 b c3_ := (f105.keep (Keep.of_wr W107))
  have f110 : Fld Z h107 b c2_ "coder" "B" (.int 0) := ((P2_.ext E103).other W107 (Or.inr (slot_ne (Or.inl (wd147 hw)) (Or.inl (wd145 hw)) (by decide) (t := .byte) (t' := (.array .byte)) (by decide) (by decide))))
  obtain ⟨T111, h111, X111, e111, W111, st111⟩ := putFN X107 hx hZ hown (wd146 hw) Via.refl e107 f110 f109 (Or.inl (wd147 hw)) (wd131 hw) (ty := .byte) (v' := (.int 0)) (by decide) rfl rfl (g := (mkF mi 19 #[.val (.ref b), .val (.int 16)] [(.int 0), (.ref b)])) rfl rfl (hb hby dj30_19)
  have N111 := Fr.snoc X111 N107 g_b
  have f112 : Fld Z h111 b c2_ "coder" "B" (.int 0) := f110.same W111
  have f114 : Exa Z h111 b c3_ := (f109.keep (Keep.of_wr W111))
  have f115 : Fld Z h111 b c2_ "value" "[B" (.ref b103) := (f108.other W111 (Or.inr (slot_ne (Or.inl (wd145 hw)) (Or.inl (wd147 hw)) (by decide) (t := (.array .byte)) (t' := .byte) (by decide) (by decide))))
  have f116 : Fld Z h111 b c2_ "count" "I" (.int 0) := (((P3_.ext E103).other W107 (Or.inr (slot_ne (Or.inl (wd165 hw)) (Or.inl (wd145 hw)) (by decide) (t := .int) (t' := (.array .byte)) (by decide) (by decide)))).other W111 (Or.inr (slot_ne (Or.inl (wd165 hw)) (Or.inl (wd147 hw)) (by decide) (t := .int) (t' := .byte) (by decide) (by decide))))
  have ne_b_b103 : b ≠ b103 := Nat.ne_of_lt (Nat.lt_of_lt_of_le P0_.lt (Nat.le_trans (Nat.le_refl _) (Nat.le_of_eq q103.symm)))
  have f117 : Arv Z h111 b103 k103 .byte (16 : Int32) ([] ++ List.replicate (16) (.int 0)) (.int 0) := ((f104.keep (Keep.of_wr W107) (ninS (Ne.symm ne_b_b103) nin0)).keep (Keep.of_wr W111) (ninS (Ne.symm ne_b_b103) nin0))
  have f118 : Exa Z h111 b103 "[B" := ((B103.keep (Keep.of_wr W107)).keep (Keep.of_wr W111))
  have s113 : SBl Z h111 b b103 16 ([] : List Int32) := ⟨f114, f115, f112, f116, ⟨_, f117⟩, f118, (by intro c hc; cases hc), (by decide), (by decide)⟩
  obtain ⟨fs, hr, hrun, hended, hW, hsame⟩ := X111.leave (v := none) (fun _ => rfl)
  refine ⟨_, _, pre0 _ ?_, hrun, hended, _, _, rfl, ?_, ⟨_, rfl⟩, hW, hsame.mono (by decide) (by decide)⟩
  · show SP pg ev below (s₁.setTop (mkF mi 0 #[.val (.ref b), .val (.int 16)] [])) _
    refine XS.aloadN X0.here hx rfl (hb hby dj30_0) rfl rfl ?_
    refine st101 _ ?_
    refine st102 _ ?_
    refine XS.ifNo X102.here hx rfl (hb hby dj30_7) rfl ((if0 _ _).trans (feq hzc).1) ?_
    refine XS.aloadN X102.here hx rfl (hb hby dj30_10) rfl rfl ?_
    refine XS.iloadN X102.here hx rfl (hb hby dj30_11) rfl ?_
    refine st103 _ ?_
    refine st107 _ ?_
    refine XS.aloadN X107.here hx rfl (hb hby dj30_17) rfl rfl ?_
    refine XS.iconst X107.here hx rfl (hb hby dj30_18) ?_
    refine st111 _ ?_
    refine XS.goto X111.here hx rfl (pc0 := 22) (pc' := 38) rfl (hb hby dj30_22) (by decide) (by decide) ?_
    show SP pg ev below (T111.setTop (mkF mi 38 #[.val (.ref b), .val (.int 16)] [])) _
    exact X111.returnOut hx Bd.returns (hb hby dj30_38) hr
  · show Q_asbi Z b zc hE n0 _ T111.heap _
    rw [e111]
    exact ⟨b103, rfl, N111, ((((Keep.refl hE [b]).ext E103).trans (Keep.of_wr W107) (allS (Or.inl (List.mem_of_getElem? (i := 0) rfl)) all0)).trans (Keep.of_wr W111) (allS (Or.inl (List.mem_of_getElem? (i := 0) rfl)) all0)), (Nat.le_of_eq q103.symm), s113⟩
theorem dj31_0 : decode jc31 0 = .ok (.aload_n 0, 1) := by decide +kernel
theorem dj31_1 : decode jc31 1 = .ok (.bipush 16, 2) := by decide +kernel
theorem dj31_3 : decode jc31 3 = .ok (.invokespecial 1, 3) := by decide +kernel
theorem dj31_6 : decode jc31 6 = .ok (.return_, 1) := by decide +kernel
theorem pd_1 : parseMethodDescriptor "(I)V" = some ⟨[.int], none⟩ := by decide +kernel
theorem pn_java_lang_StringBuilder : plainName "java/lang/StringBuilder" = true := by first | (simp [plainName, overriddenIn]; done) | decide +kernel
theorem ef_sbin (mi : MethodId) (b : Addr) : entryFrame mi #[(.ref b)] 1 = mkF mi 0 #[.val (.ref b)] [] := rfl
def Q_sbin (Z : State) (b : Addr) (zc : Int32) (hE : Heap) (n0 : Nat) (vv : Option Value) (hh : Heap) (LL : List Loc) : Prop := ∃ t : Addr, (vv = none) ∧ (Fr n0 LL) ∧ (Keep hE hh [b]) ∧ (hE.size ≤ t) ∧ (SBl Z hh b t 16 ([] : List Int32))
theorem rm_sbin (hw : HW a0 Z) (ws : List Cond) (b : Addr) (zc : Int32) (hE : Heap) (n0 : Nat) (O : Old Z n0 hE) (P0_ : Exa Z hE b c3_) (P1_ : Fld Z hE b c2_ "value" "[B" .null) (P2_ : Fld Z hE b c2_ "coder" "B" (.int 0)) (P3_ : Fld Z hE b c2_ "count" "I" (.int 0)) (D0_ : Sta Z Z.heap c1_ c6_ "Z" (.int zc)) (g_b : n0 ≤ b) (hzc : ¬ (zc = (0 : Int32))) :
    MF la Z hE mn3 jc31 1 none ws (rr 2 1 16 25) #[(.ref b)] (Q_sbin Z b zc hE n0) := by
  refine MetFree.of_bodySF (plainFor_of_name pn_java_lang_StringBuilder) hisR ?_
  intro pg ev sb mi gs below me cd s₁ Bd hml0 hPt hKt
  obtain ⟨rfl, hZ, hh⟩ := hPt
  have hx := Bd.exec
  have hby := Bd.bytes
  have hml : cd.maxLocals = 1 := hml0
  have hown : sb.vm.findClass c3_ = some mi.cls := findClass_of_methodNamed Bd.named
  have X0 : Stand pg la ev (rr 2 1 16 25) sb mi #[(.ref b)] below me cd s₁ [] 0 0 := Stand.of_body Bd
  have eE : s₁.heap = hE := by rw [← hh, Bd.state]; rfl
  have N0 := Fr.nil n0
  have pre0 : ∀ tt, SP pg ev below (s₁.setTop (mkF mi 0 #[.val (.ref b)] [])) tt → SP pg ev below (s₁.setTop (entryFrame mi #[(.ref b)] 1)) tt := fun tt kk => castTop (ef_sbin mi b) kk
  obtain ⟨v101, _, ⟨T101, L101, k101, n101⟩, -, X101, ⟨Lc101, hQ101, l101, y101, z101⟩, st101⟩ := X0.specialBack hx (y := mn2) rfl hown (mvT hZ (wd136 hw)) (mvT hZ (wd137 hw)) (mvT hZ (wd141 hw)) (by decide) (backOf (W := 0) (rm_asbi la Z a0 hw [] b zc hE n0 O P0_ P1_ P2_ P3_ D0_ g_b (hzc : ¬ (zc = (0 : Int32)))) hZ (wd141 hw) (wd140 hw) (by decide) (by decide)) (g := (mkF mi 3 #[.val (.ref b)] [(.int 16), (.ref b)])) rfl (by rw [hml]; rfl) (Steps.refl _) (a := b) (argsL := [(.int 16)]) (rest := []) (lenOf pd_1 rfl) rfl (Nat.le_of_ble_eq_true rfl) (hb hby dj31_3) (fun _ _ => ⟨rfl, eE, (by decide : 0 + 1 ≤ _), (by decide : 0 + 16 ≤ _)⟩)
  dsimp only [Pt.U, Pt.locs, Pt.cells, Pt.slots] at X101 l101 y101 z101 st101 hQ101
  subst l101 y101 z101
  obtain ⟨t_101, rfl, Nq101, Kq101, fr_t_101, r101_0⟩ := hQ101
  have N101 := Fr.app N0 Nq101
  obtain ⟨fs, hr, hrun, hended, hW, hsame⟩ := X101.leave (v := none) (fun _ => rfl)
  refine ⟨_, _, pre0 _ ?_, hrun, hended, _, _, rfl, ?_, ⟨_, rfl⟩, hW, hsame.mono (by decide) (by decide)⟩
  · show SP pg ev below (s₁.setTop (mkF mi 0 #[.val (.ref b)] [])) _
    refine XS.aloadN X0.here hx rfl (hb hby dj31_0) rfl rfl ?_
    refine XS.bipush X0.here hx rfl (hb hby dj31_1) ?_
    refine st101.trans ?_
    show SP pg ev below (T101.setTop (mkF mi 6 #[.val (.ref b)] [])) _
    exact X101.returnOut hx Bd.returns (hb hby dj31_6) hr
  · show Q_sbin Z b zc hE n0 _ T101.heap _
    exact ⟨t_101, rfl, N101, ((Keep.refl hE [b]).trans Kq101 (allS (Or.inl (List.mem_of_getElem? (i := 0) rfl)) all0)), fr_t_101, r101_0⟩
theorem dj12_0 : decode jc12 0 = .ok (.getstatic 18, 3) := by decide +kernel
theorem dj12_3 : decode jc12 3 = .ok (.ifCond .eq 18, 3) := by decide +kernel
theorem dj12_6 : decode jc12 6 = .ok (.aload_n 0, 1) := by decide +kernel
theorem dj12_7 : decode jc12 7 = .ok (.getfield 22, 3) := by decide +kernel
theorem dj12_10 : decode jc12 10 = .ok (.aload_n 1, 1) := by decide +kernel
theorem dj12_11 : decode jc12 11 = .ok (.invokevirtual 40, 3) := by decide +kernel
theorem dj12_14 : decode jc12 14 = .ok (.if_icmp .eq 7, 3) := by decide +kernel
theorem dj12_21 : decode jc12 21 = .ok (.return_, 1) := by decide +kernel
theorem ef_infl (mi : MethodId) (b : Addr) (y : Addr) : entryFrame mi #[(.ref b), (.ref y)] 2 = mkF mi 0 #[.val (.ref b), .val (.ref y)] [] := rfl
def Q_infl (Z : State) (b y u : Addr) (ds : List Int32) (zc : Int32) (hE : Heap) (n0 : Nat) (vv : Option Value) (hh : Heap) (LL : List Loc) : Prop := (vv = none) ∧ (Fr n0 LL) ∧ (hh = hE)
theorem rm_infl (hw : HW a0 Z) (ws : List Cond) (b y u : Addr) (ds : List Int32) (zc : Int32) (hE : Heap) (n0 : Nat) (O : Old Z n0 hE) (P0_ : Fld Z hE b c2_ "coder" "B" (.int 0)) (P1_ : LStr Z hE y u ds) (D0_ : Sta Z Z.heap c1_ c6_ "Z" (.int zc)) (hzc : ¬ (zc = (0 : Int32))) :
    MF la Z hE mn4 jc12 2 none ws (rr 1 0 0 13) #[(.ref b), (.ref y)] (Q_infl Z b y u ds zc hE n0) := by
  refine MetFree.of_bodySF (plainFor_of_name pn_java_lang_AbstractStringBuilder) hisR ?_
  intro pg ev sb mi gs below me cd s₁ Bd hml0 hPt hKt
  obtain ⟨rfl, hZ, hh⟩ := hPt
  have hx := Bd.exec
  have hby := Bd.bytes
  have hml : cd.maxLocals = 2 := hml0
  have hown : sb.vm.findClass c2_ = some mi.cls := findClass_of_methodNamed Bd.named
  have X0 : Stand pg la ev (rr 1 0 0 13) sb mi #[(.ref b), (.ref y)] below me cd s₁ [] 0 0 := Stand.of_body Bd
  have eE : s₁.heap = hE := by rw [← hh, Bd.state]; rfl
  have N0 := Fr.nil n0
  have pre0 : ∀ tt, SP pg ev below (s₁.setTop (mkF mi 0 #[.val (.ref b), .val (.ref y)] [])) tt → SP pg ev below (s₁.setTop (entryFrame mi #[(.ref b), (.ref y)] 2)) tt := fun tt kk => castTop (ef_infl mi b y) kk
  obtain ⟨sE101, sV101, sC101, ⟨kb101, sK101⟩, sb101, sl101⟩ := id P1_
  obtain ⟨T102, X102, e102, st102⟩ := getS2 X0 hx hZ hown (host := "") (Or.inl (wd143 hw)) Via.refl eE (D0_.ext O.2) (g := (mkF mi 0 #[.val (.ref b), .val (.ref y)] [])) rfl (hb hby dj12_0)
  obtain ⟨T103, X103, e103, st103⟩ := getF X102 hx hZ hown (host := "") (Or.inl (wd146 hw)) Via.refl e102 P0_ (g := (mkF mi 7 #[.val (.ref b), .val (.ref y)] [(.ref b)])) rfl rfl (hb hby dj12_7)
  obtain ⟨cq104, kq104, q104a, q104b, q104c⟩ := isOf hZ e103 sE101
  obtain ⟨v104, _, ⟨T104, L104, k104, n104⟩, -, X104, ⟨Lc104, hQ104, l104, y104, z104⟩, st104⟩ := X103.virtualBack hx (y := mn0) (z := mn0) hown (mvT hZ (wd181 hw)) (mvT hZ (wd99 hw)) (notFace_of_selects (args := #[]) (mvT hZ (wd101 hw))) (mvT hZ (wd101 hw)) (mvT hZ (wd100 hw)) (by decide) (backOf (W := 1) (rm_coder la Z a0 hw [] y zc hE n0 O sC101 D0_ (hzc : ¬ (zc = (0 : Int32)))) hZ (wd102 hw) (wd6 hw) (by decide) (by decide)) q104a q104c (g := (mkF mi 11 #[.val (.ref b), .val (.ref y)] [(.ref y), (.int 0)])) rfl (by rw [hml]; rfl) (Steps.refl _) (argsL := []) (rest := [(.int 0)]) (lenOf pd_0 rfl) rfl (Nat.le_of_ble_eq_true rfl) (hb hby dj12_11) (fun _ _ => ⟨rfl, e103, (by decide : 0 + 0 ≤ _), (by decide : 0 + 0 ≤ _)⟩)
  dsimp only [Pt.U, Pt.locs, Pt.cells, Pt.slots] at X104 l104 y104 z104 st104 hQ104
  subst l104 y104 z104
  obtain ⟨rfl, Nq104, ek104⟩ := hQ104
  have N104 := Fr.app N0 Nq104
  obtain ⟨fs, hr, hrun, hended, hW, hsame⟩ := X104.leave (v := none) (fun _ => rfl)
  refine ⟨_, _, pre0 _ ?_, hrun, hended, _, _, rfl, ?_, ⟨_, rfl⟩, hW, hsame.mono (by decide) (by decide)⟩
  · show SP pg ev below (s₁.setTop (mkF mi 0 #[.val (.ref b), .val (.ref y)] [])) _
    refine st102 _ ?_
    refine XS.ifNo X102.here hx rfl (hb hby dj12_3) rfl ((if0 _ _).trans (feq hzc).1) ?_
    refine XS.aloadN X102.here hx rfl (hb hby dj12_6) rfl rfl ?_
    refine st103 _ ?_
    refine XS.aloadN X103.here hx rfl (hb hby dj12_10) rfl rfl ?_
    refine st104.trans ?_
    refine XS.icmpYes X104.here hx rfl (pc0 := 14) (pc' := 21) rfl (hb hby dj12_14) rfl (teq (rfl : (0 : Int32) = (0 : Int32))).1 (by decide) (by decide) ?_
    show SP pg ev below (T104.setTop (mkF mi 21 #[.val (.ref b), .val (.ref y)] [])) _
    exact X104.returnOut hx Bd.returns (hb hby dj12_21) hr
  · show Q_infl Z b y u ds zc hE n0 _ T104.heap _
    rw [ek104]
    exact ⟨rfl, N104, rfl⟩
theorem dj1_0 : decode jc1 0 = .ok (.aload_n 0, 1) := by decide +kernel
theorem dj1_1 : decode jc1 1 = .ok (.invokevirtual 335, 3) := by decide +kernel
theorem dj1_4 : decode jc1 4 = .ok (.iload_n 3, 1) := by decide +kernel
theorem dj1_5 : decode jc1 5 = .ok (.if_icmp .ne 23, 3) := by decide +kernel
theorem dj1_8 : decode jc1 8 = .ok (.aload_n 0, 1) := by decide +kernel
theorem dj1_9 : decode jc1 9 = .ok (.getfield 9, 3) := by decide +kernel
theorem dj1_12 : decode jc1 12 = .ok (.iconst 0, 1) := by decide +kernel
theorem dj1_13 : decode jc1 13 = .ok (.aload_n 1, 1) := by decide +kernel
theorem dj1_14 : decode jc1 14 = .ok (.iload_n 2, 1) := by decide +kernel
theorem dj1_15 : decode jc1 15 = .ok (.iload_n 3, 1) := by decide +kernel
theorem dj1_16 : decode jc1 16 = .ok (.ishl, 1) := by decide +kernel
theorem dj1_17 : decode jc1 17 = .ok (.aload_n 0, 1) := by decide +kernel
theorem dj1_18 : decode jc1 18 = .ok (.getfield 9, 3) := by decide +kernel
theorem dj1_21 : decode jc1 21 = .ok (.arraylength, 1) := by decide +kernel
theorem dj1_22 : decode jc1 22 = .ok (.invokestatic 212, 3) := by decide +kernel
theorem dj1_25 : decode jc1 25 = .ok (.goto 18, 3) := by decide +kernel
theorem dj1_43 : decode jc1 43 = .ok (.return_, 1) := by decide +kernel
theorem ef_gby (mi : MethodId) (y : Addr) (t : Addr) (cs : List Int32) : entryFrame mi #[(.ref y), (.ref t), (.int (Int32.ofNat cs.length)), (.int 0)] 4 = mkF mi 0 #[.val (.ref y), .val (.ref t), .val (.int (Int32.ofNat cs.length)), .val (.int 0)] [] := rfl
def Q_gby (Z : State) (y t u : Addr) (kb : ClassId) (cap : Nat) (cs ds : List Int32) (zc : Int32) (hE : Heap) (n0 : Nat) (vv : Option Value) (hh : Heap) (LL : List Loc) : Prop := (vv = none) ∧ (Fr n0 LL) ∧ (Keep hE hh [t]) ∧ (Arv Z hh t kb .byte (Int32.ofNat cap) (pads cap (cs ++ ds)) (.int 0))
theorem rm_gby (hw : HW a0 Z) (ws : List Cond) (y t u : Addr) (kb : ClassId) (cap : Nat) (cs ds : List Int32) (zc : Int32) (hE : Heap) (n0 : Nat) (O : Old Z n0 hE) (P0_ : LStr Z hE y u ds) (P1_ : Arv Z hE t kb .byte (Int32.ofNat cap) (pads cap cs) (.int 0)) (D0_ : Sta Z Z.heap c1_ c6_ "Z" (.int zc)) (g_t : n0 ≤ t) (hfit : cs.length + ds.length ≤ cap) (hcap : cap ≤ 120) (hzc : ¬ (zc = (0 : Int32))) :
    MF la Z hE mn5 jc1 4 none ws (rr 1 0 0 18) #[(.ref y), (.ref t), (.int (Int32.ofNat cs.length)), (.int 0)] (Q_gby Z y t u kb cap cs ds zc hE n0) := by
  refine MetFree.of_bodySF (plainFor_of_name pn_java_lang_String) hisR ?_
  intro pg ev sb mi gs below me cd s₁ Bd hml0 hPt hKt
  obtain ⟨rfl, hZ, hh⟩ := hPt
  have hx := Bd.exec
  have hby := Bd.bytes
  have hml : cd.maxLocals = 4 := hml0
  have hown : sb.vm.findClass c1_ = some mi.cls := findClass_of_methodNamed Bd.named
  have X0 : Stand pg la ev (rr 1 0 0 18) sb mi #[(.ref y), (.ref t), (.int (Int32.ofNat cs.length)), (.int 0)] below me cd s₁ [] 0 0 := Stand.of_body Bd
  have eE : s₁.heap = hE := by rw [← hh, Bd.state]; rfl
  have N0 := Fr.nil n0
  have pre0 : ∀ tt, SP pg ev below (s₁.setTop (mkF mi 0 #[.val (.ref y), .val (.ref t), .val (.int (Int32.ofNat cs.length)), .val (.int 0)] [])) tt → SP pg ev below (s₁.setTop (entryFrame mi #[(.ref y), (.ref t), (.int (Int32.ofNat cs.length)), (.int 0)] 4)) tt := fun tt kk => castTop (ef_gby mi y t cs) kk
  obtain ⟨sE101, sV101, sC101, ⟨kb101, sK101⟩, sb101, sl101⟩ := id P0_
  obtain ⟨cq102, kq102, q102a, q102b, q102c⟩ := isOf hZ eE sE101
  obtain ⟨v102, _, ⟨T102, L102, k102, n102⟩, -, X102, ⟨Lc102, hQ102, l102, y102, z102⟩, st102⟩ := X0.virtualBack hx (y := mn0) (z := mn0) hown (mvT hZ (wd98 hw)) (mvT hZ (wd99 hw)) (notFace_of_selects (args := #[]) (mvT hZ (wd101 hw))) (mvT hZ (wd101 hw)) (mvT hZ (wd100 hw)) (by decide) (backOf (W := 0) (rm_coder la Z a0 hw [] y zc hE n0 O sC101 D0_ (hzc : ¬ (zc = (0 : Int32)))) hZ (wd102 hw) (wd6 hw) (by decide) (by decide)) q102a q102c (g := (mkF mi 1 #[.val (.ref y), .val (.ref t), .val (.int (Int32.ofNat cs.length)), .val (.int 0)] [(.ref y)])) rfl (by rw [hml]; rfl) (Steps.refl _) (argsL := []) (rest := []) (lenOf pd_0 rfl) rfl (Nat.le_of_ble_eq_true rfl) (hb hby dj1_1) (fun _ _ => ⟨rfl, eE, (by decide : 0 + 0 ≤ _), (by decide : 0 + 0 ≤ _)⟩)
  dsimp only [Pt.U, Pt.locs, Pt.cells, Pt.slots] at X102 l102 y102 z102 st102 hQ102
  subst l102 y102 z102
  obtain ⟨rfl, Nq102, ek102⟩ := hQ102
  have N102 := Fr.app N0 Nq102
  obtain ⟨T103, X103, e103, st103⟩ := getF X102 hx hZ hown (host := "") (Or.inl (wd32 hw)) Via.refl ek102 sV101 (g := (mkF mi 9 #[.val (.ref y), .val (.ref t), .val (.int (Int32.ofNat cs.length)), .val (.int 0)] [(.ref y)])) rfl rfl (hb hby dj1_9)
  have pre104 : ∀ tt, SP pg ev below (T103.setTop (mkF mi 17 #[.val (.ref y), .val (.ref t), .val (.int (Int32.ofNat cs.length)), .val (.int 0)] [(.int ((Int32.ofNat cs.length) <<< ((0 : Int32) &&& 31))), (.ref t), (.int 0), (.ref u)])) tt → SP pg ev below (s₁.setTop (entryFrame mi #[(.ref y), (.ref t), (.int (Int32.ofNat cs.length)), (.int 0)] 4)) tt := fun tt kk => pre0 _ (by
    show SP pg ev below (s₁.setTop (mkF mi 0 #[.val (.ref y), .val (.ref t), .val (.int (Int32.ofNat cs.length)), .val (.int 0)] [])) _
    refine XS.aloadN X0.here hx rfl (hb hby dj1_0) rfl rfl ?_
    refine st102.trans ?_
    refine XS.iloadN X102.here hx rfl (hb hby dj1_4) rfl ?_
    refine XS.icmpNo X102.here hx rfl (hb hby dj1_5) rfl (teq (rfl : (0 : Int32) = (0 : Int32))).2 ?_
    refine XS.aloadN X102.here hx rfl (hb hby dj1_8) rfl rfl ?_
    refine st103 _ ?_
    refine XS.iconst X103.here hx rfl (hb hby dj1_12) ?_
    refine XS.aloadN X103.here hx rfl (hb hby dj1_13) rfl rfl ?_
    refine XS.iloadN X103.here hx rfl (hb hby dj1_14) rfl ?_
    refine XS.iloadN X103.here hx rfl (hb hby dj1_15) rfl ?_
    refine XS.ishl X103.here hx rfl (hb hby dj1_16) rfl ?_
    exact kk)
  have pre105 : ∀ tt, SP pg ev below (T103.setTop (mkF mi 17 #[.val (.ref y), .val (.ref t), .val (.int (Int32.ofNat cs.length)), .val (.int 0)] [(.int (Int32.ofNat cs.length)), (.ref t), (.int 0), (.ref u)])) tt → SP pg ev below (s₁.setTop (entryFrame mi #[(.ref y), (.ref t), (.int (Int32.ofNat cs.length)), (.int 0)] 4)) tt := fun tt kk => pre104 tt (by rw [own_shl0]; exact kk)
  obtain ⟨T106, X106, e106, st106⟩ := getF X103 hx hZ hown (host := "") (Or.inl (wd32 hw)) Via.refl e103 sV101 (g := (mkF mi 18 #[.val (.ref y), .val (.ref t), .val (.int (Int32.ofNat cs.length)), .val (.int 0)] [(.ref y), (.int (Int32.ofNat cs.length)), (.ref t), (.int 0), (.ref u)])) rfl rfl (hb hby dj1_18)
  obtain ⟨cl107, Ar107, -, Sz107, Nn107, -, -⟩ := id sK101
  obtain ⟨T108, h108, L108, X108, e108, N108, Kq108, V108, st108⟩ := cpA X106 hx hZ hown (wd187 hw) (wd190 hw) (wd188 hw) (wd189 hw) e106 (us := (bys ds)) sK101 P1_ (Or.inl ⟨rfl, rfl⟩) (by decide) (own_len_nn (by omega)) (own_len_nn (by omega)) (by rw [own_n32 (n := ds.length) (by omega)]; exact Nat.le_of_eq (Nat.zero_add _)) (by rw [own_n32 (n := cs.length) (by omega), own_n32 (n := ds.length) (by omega), own_n32 (n := cap) (by omega)]; exact hfit) (own_us (by rw [own_n32 (by omega)]; simp [bys])) (by rw [own_n32 (n := cs.length) (by omega), own_n32 (n := ds.length) (by omega), own_pads_len (by omega)]; exact hfit) N102 g_t (g := (mkF mi 22 #[.val (.ref y), .val (.ref t), .val (.int (Int32.ofNat cs.length)), .val (.int 0)] [(.int (Int32.ofNat ds.length)), (.int (Int32.ofNat cs.length)), (.ref t), (.int 0), (.ref u)])) rfl (by rw [hml]; rfl) (rest := []) rfl (hb hby dj1_22) (by decide) (W := 0) (Nat.le_of_ble_eq_true rfl) (by decide)
  have ne_y_t : y ≠ t := Exa.neArv sE101 P1_ (wd5 hw)
  have f109 : Arv Z h108 t kb .byte (Int32.ofNat cap) (pads cap (cs ++ ds)) (.int 0) := by have hq := V108; rw [own_n32 (n := cs.length) (by omega), own_n32 (n := ds.length) (by omega), own_pads_put hfit] at hq; exact hq
  obtain ⟨fs, hr, hrun, hended, hW, hsame⟩ := X108.leave (v := none) (fun _ => rfl)
  refine ⟨_, _, pre105 _ ?_, hrun, hended, _, _, rfl, ?_, ⟨_, rfl⟩, hW, hsame.mono (by decide) (by decide)⟩
  · show SP pg ev below (T103.setTop (mkF mi 17 #[.val (.ref y), .val (.ref t), .val (.int (Int32.ofNat cs.length)), .val (.int 0)] [(.int (Int32.ofNat cs.length)), (.ref t), (.int 0), (.ref u)])) _
    refine XS.aloadN X103.here hx rfl (hb hby dj1_17) rfl rfl ?_
    refine st106 _ ?_
    refine X106.arraylength hx (cell := cl107) (by rw [e106]; exact Ar107.1) (State.isArrayOf_alike hZ.alike Ar107.2.1) (g := (mkF mi 21 #[.val (.ref y), .val (.ref t), .val (.int (Int32.ofNat cs.length)), .val (.int 0)] [(.ref u), (.int (Int32.ofNat cs.length)), (.ref t), (.int 0), (.ref u)])) rfl (rest := [(.int (Int32.ofNat cs.length)), (.ref t), (.int 0), (.ref u)]) rfl (hb hby dj1_21) _ ?_
    rw [len_of Sz107 Nn107]
    refine st108 _ ?_
    refine XS.goto X108.here hx rfl (pc0 := 25) (pc' := 43) rfl (hb hby dj1_25) (by decide) (by decide) ?_
    show SP pg ev below (T108.setTop (mkF mi 43 #[.val (.ref y), .val (.ref t), .val (.int (Int32.ofNat cs.length)), .val (.int 0)] [])) _
    exact X108.returnOut hx Bd.returns (hb hby dj1_43) hr
  · show Q_gby Z y t u kb cap cs ds zc hE n0 _ T108.heap _
    rw [e108]
    exact ⟨rfl, N108, ((Keep.refl hE [t]).trans Kq108 (allS (Or.inl (List.mem_of_getElem? (i := 0) rfl)) all0)), f109⟩
theorem dj13_0 : decode jc13 0 = .ok (.aload_n 0, 1) := by decide +kernel
theorem dj13_1 : decode jc13 1 = .ok (.aload_n 2, 1) := by decide +kernel
theorem dj13_2 : decode jc13 2 = .ok (.invokevirtual 397, 3) := by decide +kernel
theorem dj13_5 : decode jc13 5 = .ok (.aload_n 2, 1) := by decide +kernel
theorem dj13_6 : decode jc13 6 = .ok (.aload_n 0, 1) := by decide +kernel
theorem dj13_7 : decode jc13 7 = .ok (.getfield 15, 3) := by decide +kernel
theorem dj13_10 : decode jc13 10 = .ok (.iload_n 1, 1) := by decide +kernel
theorem dj13_11 : decode jc13 11 = .ok (.aload_n 0, 1) := by decide +kernel
theorem dj13_12 : decode jc13 12 = .ok (.getfield 22, 3) := by decide +kernel
theorem dj13_15 : decode jc13 15 = .ok (.invokevirtual 399, 3) := by decide +kernel
theorem dj13_18 : decode jc13 18 = .ok (.return_, 1) := by decide +kernel
theorem pd_2 : parseMethodDescriptor "(Ljava/lang/String;)V" = some ⟨[(.object "java/lang/String")], none⟩ := by decide +kernel
theorem pd_3 : parseMethodDescriptor "([BIB)V" = some ⟨[(.array .byte), .int, .byte], none⟩ := by decide +kernel
theorem ef_psa (mi : MethodId) (b : Addr) (y : Addr) (cs : List Int32) : entryFrame mi #[(.ref b), (.int (Int32.ofNat cs.length)), (.ref y)] 3 = mkF mi 0 #[.val (.ref b), .val (.int (Int32.ofNat cs.length)), .val (.ref y)] [] := rfl
def Q_psa (Z : State) (b y t u : Addr) (kb : ClassId) (cap : Nat) (cs ds : List Int32) (zc : Int32) (hE : Heap) (n0 : Nat) (vv : Option Value) (hh : Heap) (LL : List Loc) : Prop := (vv = none) ∧ (Fr n0 LL) ∧ (Keep hE hh [t]) ∧ (Arv Z hh t kb .byte (Int32.ofNat cap) (pads cap (cs ++ ds)) (.int 0))
theorem rm_psa (hw : HW a0 Z) (ws : List Cond) (b y t u : Addr) (kb : ClassId) (cap : Nat) (cs ds : List Int32) (zc : Int32) (hE : Heap) (n0 : Nat) (O : Old Z n0 hE) (P0_ : Exa Z hE b c3_) (P1_ : Fld Z hE b c2_ "value" "[B" (.ref t)) (P2_ : Fld Z hE b c2_ "coder" "B" (.int 0)) (P3_ : LStr Z hE y u ds) (P4_ : Arv Z hE t kb .byte (Int32.ofNat cap) (pads cap cs) (.int 0)) (D0_ : Sta Z Z.heap c1_ c6_ "Z" (.int zc)) (g_t : n0 ≤ t) (ne_b_t : b ≠ t) (hfit : cs.length + ds.length ≤ cap) (hcap : cap ≤ 120) (hzc : ¬ (zc = (0 : Int32))) :
    MF la Z hE mn6 jc13 3 none ws (rr 2 0 0 33) #[(.ref b), (.int (Int32.ofNat cs.length)), (.ref y)] (Q_psa Z b y t u kb cap cs ds zc hE n0) := by
  refine MetFree.of_bodySF (plainFor_of_name pn_java_lang_AbstractStringBuilder) hisR ?_
  intro pg ev sb mi gs below me cd s₁ Bd hml0 hPt hKt
  obtain ⟨rfl, hZ, hh⟩ := hPt
  have hx := Bd.exec
  have hby := Bd.bytes
  have hml : cd.maxLocals = 3 := hml0
  have hown : sb.vm.findClass c2_ = some mi.cls := findClass_of_methodNamed Bd.named
  have X0 : Stand pg la ev (rr 2 0 0 33) sb mi #[(.ref b), (.int (Int32.ofNat cs.length)), (.ref y)] below me cd s₁ [] 0 0 := Stand.of_body Bd
  have eE : s₁.heap = hE := by rw [← hh, Bd.state]; rfl
  have N0 := Fr.nil n0
  have pre0 : ∀ tt, SP pg ev below (s₁.setTop (mkF mi 0 #[.val (.ref b), .val (.int (Int32.ofNat cs.length)), .val (.ref y)] [])) tt → SP pg ev below (s₁.setTop (entryFrame mi #[(.ref b), (.int (Int32.ofNat cs.length)), (.ref y)] 3)) tt := fun tt kk => castTop (ef_psa mi b y cs) kk
  obtain ⟨cq101, qq101, qq101'⟩ := P0_.cell
  obtain ⟨v101, _, ⟨T101, L101, k101, n101⟩, -, X101, ⟨Lc101, hQ101, l101, y101, z101⟩, st101⟩ := X0.privateBack hx (y := mn4) hown (mvT hZ (wd176 hw)) (mvT hZ (wd177 hw)) (own_selP (mvT (args := #[]) hZ (wd169 hw)) rfl (Cond.privateMethod_at (mvP hZ (wd178 hw) (args := #[]))) (mvT hZ (wd177 hw)) (by decide)) (Cond.privateMethod_at (mvP hZ (wd178 hw) (args := #[]))) (mvT hZ (wd180 hw)) (by decide) (backOf (W := 0) (rm_infl la Z a0 hw [] b y u ds zc hE n0 O P2_ P3_ D0_ (hzc : ¬ (zc = (0 : Int32)))) hZ (wd180 hw) (wd140 hw) (by decide) (by decide)) (g := (mkF mi 2 #[.val (.ref b), .val (.int (Int32.ofNat cs.length)), .val (.ref y)] [(.ref y), (.ref b)])) rfl (by rw [hml]; rfl) (Steps.refl _) (a := b) (by rw [eE]; exact qq101) qq101' (argsL := [(.ref y)]) (rest := []) (lenOf pd_2 rfl) rfl (Nat.le_of_ble_eq_true rfl) (hb hby dj13_2) (fun _ _ => ⟨rfl, eE, (by decide : 0 + 0 ≤ _), (by decide : 0 + 0 ≤ _)⟩)
  dsimp only [Pt.U, Pt.locs, Pt.cells, Pt.slots] at X101 l101 y101 z101 st101 hQ101
  subst l101 y101 z101
  obtain ⟨rfl, Nq101, ek101⟩ := hQ101
  have N101 := Fr.app N0 Nq101
  obtain ⟨T102, X102, e102, st102⟩ := getF X101 hx hZ hown (host := "") (Or.inl (wd144 hw)) Via.refl ek101 P1_ (g := (mkF mi 7 #[.val (.ref b), .val (.int (Int32.ofNat cs.length)), .val (.ref y)] [(.ref b), (.ref y)])) rfl rfl (hb hby dj13_7)
  obtain ⟨T103, X103, e103, st103⟩ := getF X102 hx hZ hown (host := "") (Or.inl (wd146 hw)) Via.refl e102 P2_ (g := (mkF mi 12 #[.val (.ref b), .val (.int (Int32.ofNat cs.length)), .val (.ref y)] [(.ref b), (.int (Int32.ofNat cs.length)), (.ref t), (.ref y)])) rfl rfl (hb hby dj13_12)
  obtain ⟨cq104, kq104, q104a, q104b, q104c⟩ := isOf hZ e103 (P3_).1
  obtain ⟨v104, _, ⟨T104, L104, k104, n104⟩, -, X104, ⟨Lc104, hQ104, l104, y104, z104⟩, st104⟩ := X103.virtualBack hx (y := mn5) (z := mn5) hown (mvT hZ (wd182 hw)) (mvT hZ (wd183 hw)) (notFace_of_selects (args := #[]) (mvT hZ (wd185 hw))) (mvT hZ (wd185 hw)) (mvT hZ (wd184 hw)) (by decide) (backOf (W := 0) (rm_gby la Z a0 hw [] y t u kb cap cs ds zc hE n0 O P3_ P4_ D0_ g_t (hfit : cs.length + ds.length ≤ cap) (hcap : cap ≤ 120) (hzc : ¬ (zc = (0 : Int32)))) hZ (wd186 hw) (wd6 hw) (by decide) (by decide)) q104a q104c (g := (mkF mi 15 #[.val (.ref b), .val (.int (Int32.ofNat cs.length)), .val (.ref y)] [(.int 0), (.int (Int32.ofNat cs.length)), (.ref t), (.ref y)])) rfl (by rw [hml]; rfl) (Steps.refl _) (argsL := [(.ref t), (.int (Int32.ofNat cs.length)), (.int 0)]) (rest := []) (lenOf pd_3 rfl) rfl (Nat.le_of_ble_eq_true rfl) (hb hby dj13_15) (fun _ _ => ⟨rfl, e103, (by decide : 0 + 0 ≤ _), (by decide : 0 + 0 ≤ _)⟩)
  dsimp only [Pt.U, Pt.locs, Pt.cells, Pt.slots] at X104 l104 y104 z104 st104 hQ104
  subst l104 y104 z104
  obtain ⟨rfl, Nq104, Kq104, r104_0⟩ := hQ104
  have N104 := Fr.app N101 Nq104
  obtain ⟨fs, hr, hrun, hended, hW, hsame⟩ := X104.leave (v := none) (fun _ => rfl)
  refine ⟨_, _, pre0 _ ?_, hrun, hended, _, _, rfl, ?_, ⟨_, rfl⟩, hW, hsame.mono (by decide) (by decide)⟩
  · show SP pg ev below (s₁.setTop (mkF mi 0 #[.val (.ref b), .val (.int (Int32.ofNat cs.length)), .val (.ref y)] [])) _
    refine XS.aloadN X0.here hx rfl (hb hby dj13_0) rfl rfl ?_
    refine XS.aloadN X0.here hx rfl (hb hby dj13_1) rfl rfl ?_
    refine st101.trans ?_
    refine XS.aloadN X101.here hx rfl (hb hby dj13_5) rfl rfl ?_
    refine XS.aloadN X101.here hx rfl (hb hby dj13_6) rfl rfl ?_
    refine st102 _ ?_
    refine XS.iloadN X102.here hx rfl (hb hby dj13_10) rfl ?_
    refine XS.aloadN X102.here hx rfl (hb hby dj13_11) rfl rfl ?_
    refine st103 _ ?_
    refine st104.trans ?_
    show SP pg ev below (T104.setTop (mkF mi 18 #[.val (.ref b), .val (.int (Int32.ofNat cs.length)), .val (.ref y)] [])) _
    exact X104.returnOut hx Bd.returns (hb hby dj13_18) hr
  · show Q_psa Z b y t u kb cap cs ds zc hE n0 _ T104.heap _
    exact ⟨rfl, N104, ((Keep.refl hE [t]).trans Kq104 (allS (Or.inl (List.mem_of_getElem? (i := 0) rfl)) all0)), r104_0⟩
theorem dj32_0 : decode jc32 0 = .ok (.aload_n 0, 1) := by decide +kernel
theorem dj32_1 : decode jc32 1 = .ok (.getfield 15, 3) := by decide +kernel
theorem dj32_4 : decode jc32 4 = .ok (.arraylength, 1) := by decide +kernel
theorem dj32_5 : decode jc32 5 = .ok (.aload_n 0, 1) := by decide +kernel
theorem dj32_6 : decode jc32 6 = .ok (.getfield 22, 3) := by decide +kernel
theorem dj32_9 : decode jc32 9 = .ok (.ishr, 1) := by decide +kernel
theorem dj32_10 : decode jc32 10 = .ok (.istore_n 2, 1) := by decide +kernel
theorem dj32_11 : decode jc32 11 = .ok (.iload_n 1, 1) := by decide +kernel
theorem dj32_12 : decode jc32 12 = .ok (.iload_n 2, 1) := by decide +kernel
theorem dj32_13 : decode jc32 13 = .ok (.isub, 1) := by decide +kernel
theorem dj32_14 : decode jc32 14 = .ok (.ifCond .le 24, 3) := by decide +kernel
theorem dj32_38 : decode jc32 38 = .ok (.return_, 1) := by decide +kernel
theorem ef_eci (mi : MethodId) (b : Addr) (n : Nat) : entryFrame mi #[(.ref b), (.int (Int32.ofNat n))] 3 = mkF mi 0 #[.val (.ref b), .val (.int (Int32.ofNat n)), .unset] [] := rfl
def Q_eci (Z : State) (b : Addr) (n : Nat) (t : Addr) (kb : ClassId) (cap : Nat) (cs : List Int32) (hE : Heap) (n0 : Nat) (vv : Option Value) (hh : Heap) (LL : List Loc) : Prop := (vv = none) ∧ (Fr n0 LL) ∧ (hh = hE)
theorem rm_eci (hw : HW a0 Z) (ws : List Cond) (b : Addr) (n : Nat) (t : Addr) (kb : ClassId) (cap : Nat) (cs : List Int32) (hE : Heap) (n0 : Nat) (O : Old Z n0 hE) (P0_ : Exa Z hE b c3_) (P1_ : Fld Z hE b c2_ "value" "[B" (.ref t)) (P2_ : Fld Z hE b c2_ "coder" "B" (.int 0)) (P3_ : Arv Z hE t kb .byte (Int32.ofNat cap) (pads cap cs) (.int 0)) (hle : n ≤ cap) (hcap : cap ≤ 120) :
    MF la Z hE mn7 jc32 3 none ws (rr 0 0 0 0) #[(.ref b), (.int (Int32.ofNat n))] (Q_eci Z b n t kb cap cs hE n0) := by
  refine MetFree.of_bodySF (plainFor_of_name pn_java_lang_AbstractStringBuilder) hisR ?_
  intro pg ev sb mi gs below me cd s₁ Bd hml0 hPt hKt
  obtain ⟨rfl, hZ, hh⟩ := hPt
  have hx := Bd.exec
  have hby := Bd.bytes
  have hml : cd.maxLocals = 3 := hml0
  have hown : sb.vm.findClass c2_ = some mi.cls := findClass_of_methodNamed Bd.named
  have X0 : Stand pg la ev (rr 0 0 0 0) sb mi #[(.ref b), (.int (Int32.ofNat n))] below me cd s₁ [] 0 0 := Stand.of_body Bd
  have eE : s₁.heap = hE := by rw [← hh, Bd.state]; rfl
  have N0 := Fr.nil n0
  have pre0 : ∀ tt, SP pg ev below (s₁.setTop (mkF mi 0 #[.val (.ref b), .val (.int (Int32.ofNat n)), .unset] [])) tt → SP pg ev below (s₁.setTop (entryFrame mi #[(.ref b), (.int (Int32.ofNat n))] 3)) tt := fun tt kk => castTop (ef_eci mi b n) kk
  obtain ⟨T101, X101, e101, st101⟩ := getF X0 hx hZ hown (host := "") (Or.inl (wd144 hw)) Via.refl eE P1_ (g := (mkF mi 1 #[.val (.ref b), .val (.int (Int32.ofNat n)), .unset] [(.ref b)])) rfl rfl (hb hby dj32_1)
  obtain ⟨cl102, Ar102, -, Sz102, Nn102, -, -⟩ := id P3_
  obtain ⟨T103, X103, e103, st103⟩ := getF X101 hx hZ hown (host := "") (Or.inl (wd146 hw)) Via.refl e101 P2_ (g := (mkF mi 6 #[.val (.ref b), .val (.int (Int32.ofNat n)), .unset] [(.ref b), (.int (Int32.ofNat cap))])) rfl rfl (hb hby dj32_6)
  have pre104 : ∀ tt, SP pg ev below (T103.setTop (mkF mi 10 #[.val (.ref b), .val (.int (Int32.ofNat n)), .unset] [(.int ((Int32.ofNat cap) >>> ((0 : Int32) &&& 31)))])) tt → SP pg ev below (s₁.setTop (entryFrame mi #[(.ref b), (.int (Int32.ofNat n))] 3)) tt := fun tt kk => pre0 _ (by
    show SP pg ev below (s₁.setTop (mkF mi 0 #[.val (.ref b), .val (.int (Int32.ofNat n)), .unset] [])) _
    refine XS.aloadN X0.here hx rfl (hb hby dj32_0) rfl rfl ?_
    refine st101 _ ?_
    refine X101.arraylength hx (cell := cl102) (by rw [e101]; exact Ar102.1) (State.isArrayOf_alike hZ.alike Ar102.2.1) (g := (mkF mi 4 #[.val (.ref b), .val (.int (Int32.ofNat n)), .unset] [(.ref t)])) rfl (rest := []) rfl (hb hby dj32_4) _ ?_
    rw [len_of Sz102 Nn102]
    refine XS.aloadN X101.here hx rfl (hb hby dj32_5) rfl rfl ?_
    refine st103 _ ?_
    refine XS.ishr X103.here hx rfl (hb hby dj32_9) rfl ?_
    exact kk)
  have pre105 : ∀ tt, SP pg ev below (T103.setTop (mkF mi 10 #[.val (.ref b), .val (.int (Int32.ofNat n)), .unset] [(.int (Int32.ofNat cap))])) tt → SP pg ev below (s₁.setTop (entryFrame mi #[(.ref b), (.int (Int32.ofNat n))] 3)) tt := fun tt kk => pre104 tt (by rw [own_sh0]; exact kk)
  obtain ⟨fs, hr, hrun, hended, hW, hsame⟩ := X103.leave (v := none) (fun _ => rfl)
  refine ⟨_, _, pre105 _ ?_, hrun, hended, _, _, rfl, ?_, ⟨_, rfl⟩, hW, hsame.mono (by decide) (by decide)⟩
  · show SP pg ev below (T103.setTop (mkF mi 10 #[.val (.ref b), .val (.int (Int32.ofNat n)), .unset] [(.int (Int32.ofNat cap))])) _
    refine XS.istoreN X103.here hx rfl (hb hby dj32_10) rfl (l' := #[.val (.ref b), .val (.int (Int32.ofNat n)), .val (.int (Int32.ofNat cap))]) rfl ?_
    refine XS.iloadN X103.here hx rfl (hb hby dj32_11) rfl ?_
    refine XS.iloadN X103.here hx rfl (hb hby dj32_12) rfl ?_
    refine XS.isub X103.here hx rfl (hb hby dj32_13) rfl ?_
    refine XS.ifYes X103.here hx rfl (pc0 := 14) (pc' := 38) rfl (hb hby dj32_14) rfl ((if0 _ _).trans (flt (fun q => absurd ((own_gap (by omega) (by omega)).mp q) (by omega))).2.2.2) (by decide) (by decide) ?_
    show SP pg ev below (T103.setTop (mkF mi 38 #[.val (.ref b), .val (.int (Int32.ofNat n)), .val (.int (Int32.ofNat cap))] [])) _
    exact X103.returnOut hx Bd.returns (hb hby dj32_38) hr
  · show Q_eci Z b n t kb cap cs hE n0 _ T103.heap _
    rw [e103]
    exact ⟨rfl, N0, rfl⟩
theorem dj14_0 : decode jc14 0 = .ok (.iload_n 0, 1) := by decide +kernel
theorem dj14_1 : decode jc14 1 = .ok (.iload_n 1, 1) := by decide +kernel
theorem dj14_2 : decode jc14 2 = .ok (.if_icmp .lt 7, 3) := by decide +kernel
theorem dj14_5 : decode jc14 5 = .ok (.iload_n 0, 1) := by decide +kernel
theorem dj14_6 : decode jc14 6 = .ok (.goto 4, 3) := by decide +kernel
theorem dj14_9 : decode jc14 9 = .ok (.iload_n 1, 1) := by decide +kernel
theorem dj14_10 : decode jc14 10 = .ok (.ireturn, 1) := by decide +kernel
theorem ef_mmax (mi : MethodId) (p : Int32) (q : Int32) : entryFrame mi #[(.int p), (.int q)] 2 = mkF mi 0 #[.val (.int p), .val (.int q)] [] := rfl
def Q_mmax (Z : State) (p q : Int32) (hE : Heap) (n0 : Nat) (vv : Option Value) (hh : Heap) (LL : List Loc) : Prop := (vv = some (.int (if p < q then q else p))) ∧ (Fr n0 LL) ∧ (hh = hE)
theorem rm_mmax (hw : HW a0 Z) (ws : List Cond) (p q : Int32) (hE : Heap) (n0 : Nat) (O : Old Z n0 hE) :
    MF la Z hE mn8 jc14 2 (some .int) ws (rr 0 0 0 0) #[(.int p), (.int q)] (Q_mmax Z p q hE n0) := by
  refine MetFree.of_bodySF (Jvm.Free.JP.mathPlain rfl (by decide +kernel)) hisR ?_
  intro pg ev sb mi gs below me cd s₁ Bd hml0 hPt hKt
  obtain ⟨rfl, hZ, hh⟩ := hPt
  have hx := Bd.exec
  have hby := Bd.bytes
  have hml : cd.maxLocals = 2 := hml0
  have hown : sb.vm.findClass c23_ = some mi.cls := findClass_of_methodNamed Bd.named
  have X0 : Stand pg la ev (rr 0 0 0 0) sb mi #[(.int p), (.int q)] below me cd s₁ [] 0 0 := Stand.of_body Bd
  have eE : s₁.heap = hE := by rw [← hh, Bd.state]; rfl
  have N0 := Fr.nil n0
  have pre0 : ∀ tt, SP pg ev below (s₁.setTop (mkF mi 0 #[.val (.int p), .val (.int q)] [])) tt → SP pg ev below (s₁.setTop (entryFrame mi #[(.int p), (.int q)] 2)) tt := fun tt kk => castTop (ef_mmax mi p q) kk
  have pre102 : ∀ tt, SP pg ev below (s₁.setTop (mkF mi 2 #[.val (.int p), .val (.int q)] [(.int q), (.int p)])) tt → SP pg ev below (s₁.setTop (entryFrame mi #[(.int p), (.int q)] 2)) tt := fun tt kk => pre0 _ (by
    show SP pg ev below (s₁.setTop (mkF mi 0 #[.val (.int p), .val (.int q)] [])) _
    refine XS.iloadN X0.here hx rfl (hb hby dj14_0) rfl ?_
    refine XS.iloadN X0.here hx rfl (hb hby dj14_1) rfl ?_
    exact kk)
  by_cases hc101 : p < q
  · obtain ⟨fs, hr, hrun, hended, hW, hsame⟩ := X0.leave (v := some (.int q)) (fun hq => by rw [Bd.returns] at hq; cases hq)
    refine ⟨_, _, pre102 _ ?_, hrun, hended, _, _, rfl, ?_, ⟨_, rfl⟩, hW, hsame.mono (by decide) (by decide)⟩
    · show SP pg ev below (s₁.setTop (mkF mi 2 #[.val (.int p), .val (.int q)] [(.int q), (.int p)])) _
      refine XS.icmpYes X0.here hx rfl (pc0 := 2) (pc' := 9) rfl (hb hby dj14_2) rfl (tlt hc101).1 (by decide) (by decide) ?_
      refine XS.iloadN X0.here hx rfl (hb hby dj14_9) rfl ?_
      show SP pg ev below (s₁.setTop (mkF mi 10 #[.val (.int p), .val (.int q)] [(.int q)])) _
      exact retI X0 hx Bd.returns (hb hby dj14_10) hr
    · show Q_mmax Z p q hE n0 _ s₁.heap _
      rw [eE]
      exact ⟨(by show some (Value.int q) = some (Value.int (if p < q then q else p)); rw [if_pos hc101]), N0, rfl⟩
  · obtain ⟨fs, hr, hrun, hended, hW, hsame⟩ := X0.leave (v := some (.int p)) (fun hq => by rw [Bd.returns] at hq; cases hq)
    refine ⟨_, _, pre102 _ ?_, hrun, hended, _, _, rfl, ?_, ⟨_, rfl⟩, hW, hsame.mono (by decide) (by decide)⟩
    · show SP pg ev below (s₁.setTop (mkF mi 2 #[.val (.int p), .val (.int q)] [(.int q), (.int p)])) _
      refine XS.icmpNo X0.here hx rfl (hb hby dj14_2) rfl (flt hc101).1 ?_
      refine XS.iloadN X0.here hx rfl (hb hby dj14_5) rfl ?_
      refine XS.goto X0.here hx rfl (pc0 := 6) (pc' := 10) rfl (hb hby dj14_6) (by decide) (by decide) ?_
      show SP pg ev below (s₁.setTop (mkF mi 10 #[.val (.int p), .val (.int q)] [(.int p)])) _
      exact retI X0 hx Bd.returns (hb hby dj14_10) hr
    · show Q_mmax Z p q hE n0 _ s₁.heap _
      rw [eE]
      exact ⟨(by show some (Value.int p) = some (Value.int (if p < q then q else p)); rw [if_neg hc101]), N0, rfl⟩
theorem dj15_0 : decode jc15 0 = .ok (.iload_n 0, 1) := by decide +kernel
theorem dj15_1 : decode jc15 1 = .ok (.iload_n 1, 1) := by decide +kernel
theorem dj15_2 : decode jc15 2 = .ok (.iload_n 2, 1) := by decide +kernel
theorem dj15_3 : decode jc15 3 = .ok (.invokestatic 194, 3) := by decide +kernel
theorem dj15_6 : decode jc15 6 = .ok (.iadd, 1) := by decide +kernel
theorem dj15_7 : decode jc15 7 = .ok (.istore_n 3, 1) := by decide +kernel
theorem dj15_8 : decode jc15 8 = .ok (.iconst 0, 1) := by decide +kernel
theorem dj15_9 : decode jc15 9 = .ok (.iload_n 3, 1) := by decide +kernel
theorem dj15_10 : decode jc15 10 = .ok (.if_icmp .ge 11, 3) := by decide +kernel
theorem dj15_13 : decode jc15 13 = .ok (.iload_n 3, 1) := by decide +kernel
theorem dj15_14 : decode jc15 14 = .ok (.ldc 200, 2) := by decide +kernel
theorem dj15_16 : decode jc15 16 = .ok (.if_icmp .gt 5, 3) := by decide +kernel
theorem dj15_19 : decode jc15 19 = .ok (.iload_n 3, 1) := by decide +kernel
theorem dj15_20 : decode jc15 20 = .ok (.ireturn, 1) := by decide +kernel
theorem pd_4 : parseMethodDescriptor "(II)I" = some ⟨[.int, .int], some .int⟩ := by decide +kernel
theorem pn_jdk_internal_util_ArraysSupport : plainName "jdk/internal/util/ArraysSupport" = true := by first | (simp [plainName, overriddenIn]; done) | decide +kernel
theorem ef_nlen (mi : MethodId) (cap : Nat) (n : Nat) : entryFrame mi #[(.int (Int32.ofNat cap)), (.int ((Int32.ofNat n) - (Int32.ofNat cap))), (.int ((Int32.ofNat cap) + (2 : Int32)))] 4 = mkF mi 0 #[.val (.int (Int32.ofNat cap)), .val (.int ((Int32.ofNat n) - (Int32.ofNat cap))), .val (.int ((Int32.ofNat cap) + (2 : Int32))), .unset] [] := rfl
def Q_nlen (Z : State) (cap n : Nat) (hE : Heap) (n0 : Nat) (vv : Option Value) (hh : Heap) (LL : List Loc) : Prop := (vv = some (.int (Int32.ofNat (ncap cap n)))) ∧ (Fr n0 LL) ∧ (hh = hE)
theorem rm_nlen (hw : HW a0 Z) (ws : List Cond) (cap n : Nat) (hE : Heap) (n0 : Nat) (O : Old Z n0 hE) (hgt : cap < n) (hn : n ≤ 120) (hc5 : cap ≤ 50) :
    MF la Z hE mn9 jc15 4 (some .int) ws (rr 1 0 0 14) #[(.int (Int32.ofNat cap)), (.int ((Int32.ofNat n) - (Int32.ofNat cap))), (.int ((Int32.ofNat cap) + (2 : Int32)))] (Q_nlen Z cap n hE n0) := by
  refine MetFree.of_bodySF (plainFor_of_name pn_jdk_internal_util_ArraysSupport) hisR ?_
  intro pg ev sb mi gs below me cd s₁ Bd hml0 hPt hKt
  obtain ⟨rfl, hZ, hh⟩ := hPt
  have hx := Bd.exec
  have hby := Bd.bytes
  have hml : cd.maxLocals = 4 := hml0
  have hown : sb.vm.findClass c12_ = some mi.cls := findClass_of_methodNamed Bd.named
  have X0 : Stand pg la ev (rr 1 0 0 14) sb mi #[(.int (Int32.ofNat cap)), (.int ((Int32.ofNat n) - (Int32.ofNat cap))), (.int ((Int32.ofNat cap) + (2 : Int32)))] below me cd s₁ [] 0 0 := Stand.of_body Bd
  have eE : s₁.heap = hE := by rw [← hh, Bd.state]; rfl
  have N0 := Fr.nil n0
  have pre0 : ∀ tt, SP pg ev below (s₁.setTop (mkF mi 0 #[.val (.int (Int32.ofNat cap)), .val (.int ((Int32.ofNat n) - (Int32.ofNat cap))), .val (.int ((Int32.ofNat cap) + (2 : Int32))), .unset] [])) tt → SP pg ev below (s₁.setTop (entryFrame mi #[(.int (Int32.ofNat cap)), (.int ((Int32.ofNat n) - (Int32.ofNat cap))), (.int ((Int32.ofNat cap) + (2 : Int32)))] 4)) tt := fun tt kk => castTop (ef_nlen mi cap n) kk
  obtain ⟨v101, _, ⟨T101, L101, k101, n101⟩, -, X101, ⟨Lc101, hQ101, l101, y101, z101⟩, st101⟩ := Jvm.LawKit.callS X0 hx (y := mn8) hown (mvT hZ (wd258 hw)) (mvT hZ (wd259 hw)) (mvT hZ (wd238 hw)) (mvT hZ (wd260 hw)) (by decide) (backOf (W := 1) (rm_mmax la Z a0 hw [] ((Int32.ofNat n) - (Int32.ofNat cap)) ((Int32.ofNat cap) + (2 : Int32)) hE n0 O) hZ (wd260 hw) (wd238 hw) (by decide) (by decide)) (g := (mkF mi 3 #[.val (.int (Int32.ofNat cap)), .val (.int ((Int32.ofNat n) - (Int32.ofNat cap))), .val (.int ((Int32.ofNat cap) + (2 : Int32))), .unset] [(.int ((Int32.ofNat cap) + (2 : Int32))), (.int ((Int32.ofNat n) - (Int32.ofNat cap))), (.int (Int32.ofNat cap))])) rfl (by rw [hml]; rfl) (argsL := [(.int ((Int32.ofNat n) - (Int32.ofNat cap))), (.int ((Int32.ofNat cap) + (2 : Int32)))]) (rest := [(.int (Int32.ofNat cap))]) (lenOf pd_4 rfl) rfl (Nat.le_of_ble_eq_true rfl) (hb hby dj15_3) (fun _ _ => ⟨rfl, eE, (by decide : 0 + 0 ≤ _), (by decide : 0 + 0 ≤ _)⟩)
  dsimp only [Pt.U, Pt.locs, Pt.cells, Pt.slots] at X101 l101 y101 z101 st101 hQ101
  subst l101 y101 z101
  obtain ⟨rfl, Nq101, ek101⟩ := hQ101
  have N101 := Fr.app N0 Nq101
  have pre102 : ∀ tt, SP pg ev below (T101.setTop (mkF mi 7 #[.val (.int (Int32.ofNat cap)), .val (.int ((Int32.ofNat n) - (Int32.ofNat cap))), .val (.int ((Int32.ofNat cap) + (2 : Int32))), .unset] [(.int ((Int32.ofNat cap) + (if ((Int32.ofNat n) - (Int32.ofNat cap)) < ((Int32.ofNat cap) + (2 : Int32)) then ((Int32.ofNat cap) + (2 : Int32)) else ((Int32.ofNat n) - (Int32.ofNat cap)))))])) tt → SP pg ev below (s₁.setTop (entryFrame mi #[(.int (Int32.ofNat cap)), (.int ((Int32.ofNat n) - (Int32.ofNat cap))), (.int ((Int32.ofNat cap) + (2 : Int32)))] 4)) tt := fun tt kk => pre0 _ (by
    show SP pg ev below (s₁.setTop (mkF mi 0 #[.val (.int (Int32.ofNat cap)), .val (.int ((Int32.ofNat n) - (Int32.ofNat cap))), .val (.int ((Int32.ofNat cap) + (2 : Int32))), .unset] [])) _
    refine XS.iloadN X0.here hx rfl (hb hby dj15_0) rfl ?_
    refine XS.iloadN X0.here hx rfl (hb hby dj15_1) rfl ?_
    refine XS.iloadN X0.here hx rfl (hb hby dj15_2) rfl ?_
    refine st101 _ ?_
    refine XS.iadd X101.here hx rfl (hb hby dj15_6) rfl ?_
    exact kk)
  have pre103 : ∀ tt, SP pg ev below (T101.setTop (mkF mi 7 #[.val (.int (Int32.ofNat cap)), .val (.int ((Int32.ofNat n) - (Int32.ofNat cap))), .val (.int ((Int32.ofNat cap) + (2 : Int32))), .unset] [(.int (Int32.ofNat (ncap cap n)))])) tt → SP pg ev below (s₁.setTop (entryFrame mi #[(.int (Int32.ofNat cap)), (.int ((Int32.ofNat n) - (Int32.ofNat cap))), (.int ((Int32.ofNat cap) + (2 : Int32)))] 4)) tt := fun tt kk => pre102 tt (by rw [own_newlen hgt hn hc5]; exact kk)
  obtain ⟨fs, hr, hrun, hended, hW, hsame⟩ := X101.leave (v := some (.int (Int32.ofNat (ncap cap n)))) (fun hq => by rw [Bd.returns] at hq; cases hq)
  refine ⟨_, _, pre103 _ ?_, hrun, hended, _, _, rfl, ?_, ⟨_, rfl⟩, hW, hsame.mono (by decide) (by decide)⟩
  · show SP pg ev below (T101.setTop (mkF mi 7 #[.val (.int (Int32.ofNat cap)), .val (.int ((Int32.ofNat n) - (Int32.ofNat cap))), .val (.int ((Int32.ofNat cap) + (2 : Int32))), .unset] [(.int (Int32.ofNat (ncap cap n)))])) _
    refine XS.istoreN X101.here hx rfl (hb hby dj15_7) rfl (l' := #[.val (.int (Int32.ofNat cap)), .val (.int ((Int32.ofNat n) - (Int32.ofNat cap))), .val (.int ((Int32.ofNat cap) + (2 : Int32))), .val (.int (Int32.ofNat (ncap cap n)))]) rfl ?_
    refine XS.iconst X101.here hx rfl (hb hby dj15_8) ?_
    refine XS.iloadN X101.here hx rfl (hb hby dj15_9) rfl ?_
    refine XS.icmpNo X101.here hx rfl (hb hby dj15_10) rfl (tlt ((own_lt32 (a := 0) (by omega) (by have := own_ncap hgt hn hc5; omega)).mpr (by have := own_ncap hgt hn hc5; omega))).2.1 ?_
    refine XS.iloadN X101.here hx rfl (hb hby dj15_13) rfl ?_
    refine X101.ldcInt hx hown (mvT hZ (wd261 hw)) (g := (mkF mi 14 #[.val (.int (Int32.ofNat cap)), .val (.int ((Int32.ofNat n) - (Int32.ofNat cap))), .val (.int ((Int32.ofNat cap) + (2 : Int32))), .val (.int (Int32.ofNat (ncap cap n)))] [(.int (Int32.ofNat (ncap cap n)))])) rfl (hb hby dj15_14) _ ?_
    refine XS.icmpNo X101.here hx rfl (hb hby dj15_16) rfl (flt (own_big (by have := own_ncap hgt hn hc5; omega))).2.2.1 ?_
    refine XS.iloadN X101.here hx rfl (hb hby dj15_19) rfl ?_
    show SP pg ev below (T101.setTop (mkF mi 20 #[.val (.int (Int32.ofNat cap)), .val (.int ((Int32.ofNat n) - (Int32.ofNat cap))), .val (.int ((Int32.ofNat cap) + (2 : Int32))), .val (.int (Int32.ofNat (ncap cap n)))] [(.int (Int32.ofNat (ncap cap n)))])) _
    exact retI X101 hx Bd.returns (hb hby dj15_20) hr
  · show Q_nlen Z cap n hE n0 _ T101.heap _
    rw [ek101]
    exact ⟨rfl, N101, rfl⟩
theorem dj16_0 : decode jc16 0 = .ok (.aload_n 0, 1) := by decide +kernel
theorem dj16_1 : decode jc16 1 = .ok (.getfield 15, 3) := by decide +kernel
theorem dj16_4 : decode jc16 4 = .ok (.arraylength, 1) := by decide +kernel
theorem dj16_5 : decode jc16 5 = .ok (.istore_n 2, 1) := by decide +kernel
theorem dj16_6 : decode jc16 6 = .ok (.iload_n 1, 1) := by decide +kernel
theorem dj16_7 : decode jc16 7 = .ok (.aload_n 0, 1) := by decide +kernel
theorem dj16_8 : decode jc16 8 = .ok (.getfield 22, 3) := by decide +kernel
theorem dj16_11 : decode jc16 11 = .ok (.ishl, 1) := by decide +kernel
theorem dj16_12 : decode jc16 12 = .ok (.istore_n 3, 1) := by decide +kernel
theorem dj16_13 : decode jc16 13 = .ok (.iload_n 3, 1) := by decide +kernel
theorem dj16_14 : decode jc16 14 = .ok (.iload_n 2, 1) := by decide +kernel
theorem dj16_15 : decode jc16 15 = .ok (.isub, 1) := by decide +kernel
theorem dj16_16 : decode jc16 16 = .ok (.istore 4, 2) := by decide +kernel
theorem dj16_18 : decode jc16 18 = .ok (.iload_n 2, 1) := by decide +kernel
theorem dj16_19 : decode jc16 19 = .ok (.iload 4, 2) := by decide +kernel
theorem dj16_21 : decode jc16 21 = .ok (.iload_n 2, 1) := by decide +kernel
theorem dj16_22 : decode jc16 22 = .ok (.iconst 2, 1) := by decide +kernel
theorem dj16_23 : decode jc16 23 = .ok (.aload_n 0, 1) := by decide +kernel
theorem dj16_24 : decode jc16 24 = .ok (.getfield 22, 3) := by decide +kernel
theorem dj16_27 : decode jc16 27 = .ok (.ishl, 1) := by decide +kernel
theorem dj16_28 : decode jc16 28 = .ok (.iadd, 1) := by decide +kernel
theorem dj16_29 : decode jc16 29 = .ok (.invokestatic 114, 3) := by decide +kernel
theorem dj16_32 : decode jc16 32 = .ok (.istore 5, 2) := by decide +kernel
theorem dj16_34 : decode jc16 34 = .ok (.iload 5, 2) := by decide +kernel
theorem dj16_36 : decode jc16 36 = .ok (.ldc 39, 2) := by decide +kernel
theorem dj16_38 : decode jc16 38 = .ok (.if_icmp .ne 13, 3) := by decide +kernel
theorem dj16_51 : decode jc16 51 = .ok (.iload 5, 2) := by decide +kernel
theorem dj16_53 : decode jc16 53 = .ok (.aload_n 0, 1) := by decide +kernel
theorem dj16_54 : decode jc16 54 = .ok (.getfield 22, 3) := by decide +kernel
theorem dj16_57 : decode jc16 57 = .ok (.ishr, 1) := by decide +kernel
theorem dj16_58 : decode jc16 58 = .ok (.ireturn, 1) := by decide +kernel
theorem pd_5 : parseMethodDescriptor "(III)I" = some ⟨[.int, .int, .int], some .int⟩ := by decide +kernel
theorem ef_ncp (mi : MethodId) (b : Addr) (n : Nat) : entryFrame mi #[(.ref b), (.int (Int32.ofNat n))] 6 = mkF mi 0 #[.val (.ref b), .val (.int (Int32.ofNat n)), .unset, .unset, .unset, .unset] [] := rfl
def Q_ncp (Z : State) (b : Addr) (n : Nat) (t : Addr) (kb : ClassId) (cap : Nat) (cs : List Int32) (hE : Heap) (n0 : Nat) (vv : Option Value) (hh : Heap) (LL : List Loc) : Prop := (vv = some (.int (Int32.ofNat (ncap cap n)))) ∧ (Fr n0 LL) ∧ (hh = hE)
theorem rm_ncp (hw : HW a0 Z) (ws : List Cond) (b : Addr) (n : Nat) (t : Addr) (kb : ClassId) (cap : Nat) (cs : List Int32) (hE : Heap) (n0 : Nat) (O : Old Z n0 hE) (P0_ : Fld Z hE b c2_ "value" "[B" (.ref t)) (P1_ : Fld Z hE b c2_ "coder" "B" (.int 0)) (P2_ : Arv Z hE t kb .byte (Int32.ofNat cap) (pads cap cs) (.int 0)) (hgt : cap < n) (hn : n ≤ 120) (hc5 : cap ≤ 50) :
    MF la Z hE mn10 jc16 6 (some .int) ws (rr 2 0 0 29) #[(.ref b), (.int (Int32.ofNat n))] (Q_ncp Z b n t kb cap cs hE n0) := by
  refine MetFree.of_bodySF (plainFor_of_name pn_java_lang_AbstractStringBuilder) hisR ?_
  intro pg ev sb mi gs below me cd s₁ Bd hml0 hPt hKt
  obtain ⟨rfl, hZ, hh⟩ := hPt
  have hx := Bd.exec
  have hby := Bd.bytes
  have hml : cd.maxLocals = 6 := hml0
  have hown : sb.vm.findClass c2_ = some mi.cls := findClass_of_methodNamed Bd.named
  have X0 : Stand pg la ev (rr 2 0 0 29) sb mi #[(.ref b), (.int (Int32.ofNat n))] below me cd s₁ [] 0 0 := Stand.of_body Bd
  have eE : s₁.heap = hE := by rw [← hh, Bd.state]; rfl
  have N0 := Fr.nil n0
  have pre0 : ∀ tt, SP pg ev below (s₁.setTop (mkF mi 0 #[.val (.ref b), .val (.int (Int32.ofNat n)), .unset, .unset, .unset, .unset] [])) tt → SP pg ev below (s₁.setTop (entryFrame mi #[(.ref b), (.int (Int32.ofNat n))] 6)) tt := fun tt kk => castTop (ef_ncp mi b n) kk
  obtain ⟨T101, X101, e101, st101⟩ := getF X0 hx hZ hown (host := "") (Or.inl (wd144 hw)) Via.refl eE P0_ (g := (mkF mi 1 #[.val (.ref b), .val (.int (Int32.ofNat n)), .unset, .unset, .unset, .unset] [(.ref b)])) rfl rfl (hb hby dj16_1)
  obtain ⟨cl102, Ar102, -, Sz102, Nn102, -, -⟩ := id P2_
  obtain ⟨T103, X103, e103, st103⟩ := getF X101 hx hZ hown (host := "") (Or.inl (wd146 hw)) Via.refl e101 P1_ (g := (mkF mi 8 #[.val (.ref b), .val (.int (Int32.ofNat n)), .val (.int (Int32.ofNat cap)), .unset, .unset, .unset] [(.ref b), (.int (Int32.ofNat n))])) rfl rfl (hb hby dj16_8)
  have pre104 : ∀ tt, SP pg ev below (T103.setTop (mkF mi 12 #[.val (.ref b), .val (.int (Int32.ofNat n)), .val (.int (Int32.ofNat cap)), .unset, .unset, .unset] [(.int ((Int32.ofNat n) <<< ((0 : Int32) &&& 31)))])) tt → SP pg ev below (s₁.setTop (entryFrame mi #[(.ref b), (.int (Int32.ofNat n))] 6)) tt := fun tt kk => pre0 _ (by
    show SP pg ev below (s₁.setTop (mkF mi 0 #[.val (.ref b), .val (.int (Int32.ofNat n)), .unset, .unset, .unset, .unset] [])) _
    refine XS.aloadN X0.here hx rfl (hb hby dj16_0) rfl rfl ?_
    refine st101 _ ?_
    refine X101.arraylength hx (cell := cl102) (by rw [e101]; exact Ar102.1) (State.isArrayOf_alike hZ.alike Ar102.2.1) (g := (mkF mi 4 #[.val (.ref b), .val (.int (Int32.ofNat n)), .unset, .unset, .unset, .unset] [(.ref t)])) rfl (rest := []) rfl (hb hby dj16_4) _ ?_
    rw [len_of Sz102 Nn102]
    refine XS.istoreN X101.here hx rfl (hb hby dj16_5) rfl (l' := #[.val (.ref b), .val (.int (Int32.ofNat n)), .val (.int (Int32.ofNat cap)), .unset, .unset, .unset]) rfl ?_
    refine XS.iloadN X101.here hx rfl (hb hby dj16_6) rfl ?_
    refine XS.aloadN X101.here hx rfl (hb hby dj16_7) rfl rfl ?_
    refine st103 _ ?_
    refine XS.ishl X103.here hx rfl (hb hby dj16_11) rfl ?_
    exact kk)
  have pre105 : ∀ tt, SP pg ev below (T103.setTop (mkF mi 12 #[.val (.ref b), .val (.int (Int32.ofNat n)), .val (.int (Int32.ofNat cap)), .unset, .unset, .unset] [(.int (Int32.ofNat n))])) tt → SP pg ev below (s₁.setTop (entryFrame mi #[(.ref b), (.int (Int32.ofNat n))] 6)) tt := fun tt kk => pre104 tt (by rw [own_shl0]; exact kk)
  obtain ⟨T106, X106, e106, st106⟩ := getF X103 hx hZ hown (host := "") (Or.inl (wd146 hw)) Via.refl e103 P1_ (g := (mkF mi 24 #[.val (.ref b), .val (.int (Int32.ofNat n)), .val (.int (Int32.ofNat cap)), .val (.int (Int32.ofNat n)), .val (.int ((Int32.ofNat n) - (Int32.ofNat cap))), .unset] [(.ref b), (.int 2), (.int (Int32.ofNat cap)), (.int ((Int32.ofNat n) - (Int32.ofNat cap))), (.int (Int32.ofNat cap))])) rfl rfl (hb hby dj16_24)
  have pre107 : ∀ tt, SP pg ev below (T106.setTop (mkF mi 28 #[.val (.ref b), .val (.int (Int32.ofNat n)), .val (.int (Int32.ofNat cap)), .val (.int (Int32.ofNat n)), .val (.int ((Int32.ofNat n) - (Int32.ofNat cap))), .unset] [(.int ((2 : Int32) <<< ((0 : Int32) &&& 31))), (.int (Int32.ofNat cap)), (.int ((Int32.ofNat n) - (Int32.ofNat cap))), (.int (Int32.ofNat cap))])) tt → SP pg ev below (s₁.setTop (entryFrame mi #[(.ref b), (.int (Int32.ofNat n))] 6)) tt := fun tt kk => pre105 _ (by
    show SP pg ev below (T103.setTop (mkF mi 12 #[.val (.ref b), .val (.int (Int32.ofNat n)), .val (.int (Int32.ofNat cap)), .unset, .unset, .unset] [(.int (Int32.ofNat n))])) _
    refine XS.istoreN X103.here hx rfl (hb hby dj16_12) rfl (l' := #[.val (.ref b), .val (.int (Int32.ofNat n)), .val (.int (Int32.ofNat cap)), .val (.int (Int32.ofNat n)), .unset, .unset]) rfl ?_
    refine XS.iloadN X103.here hx rfl (hb hby dj16_13) rfl ?_
    refine XS.iloadN X103.here hx rfl (hb hby dj16_14) rfl ?_
    refine XS.isub X103.here hx rfl (hb hby dj16_15) rfl ?_
    refine XS.istore X103.here hx rfl (hb hby dj16_16) rfl (l' := #[.val (.ref b), .val (.int (Int32.ofNat n)), .val (.int (Int32.ofNat cap)), .val (.int (Int32.ofNat n)), .val (.int ((Int32.ofNat n) - (Int32.ofNat cap))), .unset]) rfl ?_
    refine XS.iloadN X103.here hx rfl (hb hby dj16_18) rfl ?_
    refine XS.iload X103.here hx rfl (hb hby dj16_19) rfl ?_
    refine XS.iloadN X103.here hx rfl (hb hby dj16_21) rfl ?_
    refine XS.iconst X103.here hx rfl (hb hby dj16_22) ?_
    refine XS.aloadN X103.here hx rfl (hb hby dj16_23) rfl rfl ?_
    refine st106 _ ?_
    refine XS.ishl X106.here hx rfl (hb hby dj16_27) rfl ?_
    exact kk)
  have pre108 : ∀ tt, SP pg ev below (T106.setTop (mkF mi 28 #[.val (.ref b), .val (.int (Int32.ofNat n)), .val (.int (Int32.ofNat cap)), .val (.int (Int32.ofNat n)), .val (.int ((Int32.ofNat n) - (Int32.ofNat cap))), .unset] [(.int 2), (.int (Int32.ofNat cap)), (.int ((Int32.ofNat n) - (Int32.ofNat cap))), (.int (Int32.ofNat cap))])) tt → SP pg ev below (s₁.setTop (entryFrame mi #[(.ref b), (.int (Int32.ofNat n))] 6)) tt := fun tt kk => pre107 tt (by rw [own_shl0]; exact kk)
  obtain ⟨v109, _, ⟨T109, L109, k109, n109⟩, -, X109, ⟨Lc109, hQ109, l109, y109, z109⟩, st109⟩ := Jvm.LawKit.callS X106 hx (y := mn9) hown (mvT hZ (wd254 hw)) (mvT hZ (wd255 hw)) (mvT hZ (wd256 hw)) (mvT hZ (wd257 hw)) (by decide) (backOf (W := 0) (rm_nlen la Z a0 hw [] cap n hE n0 O (hgt : cap < n) (hn : n ≤ 120) (hc5 : cap ≤ 50)) hZ (wd257 hw) (wd256 hw) (by decide) (by decide)) (g := (mkF mi 29 #[.val (.ref b), .val (.int (Int32.ofNat n)), .val (.int (Int32.ofNat cap)), .val (.int (Int32.ofNat n)), .val (.int ((Int32.ofNat n) - (Int32.ofNat cap))), .unset] [(.int ((Int32.ofNat cap) + (2 : Int32))), (.int ((Int32.ofNat n) - (Int32.ofNat cap))), (.int (Int32.ofNat cap))])) rfl (by rw [hml]; rfl) (argsL := [(.int (Int32.ofNat cap)), (.int ((Int32.ofNat n) - (Int32.ofNat cap))), (.int ((Int32.ofNat cap) + (2 : Int32)))]) (rest := []) (lenOf pd_5 rfl) rfl (Nat.le_of_ble_eq_true rfl) (hb hby dj16_29) (fun _ _ => ⟨rfl, e106, (by decide : 0 + 0 ≤ _), (by decide : 0 + 0 ≤ _)⟩)
  dsimp only [Pt.U, Pt.locs, Pt.cells, Pt.slots] at X109 l109 y109 z109 st109 hQ109
  subst l109 y109 z109
  obtain ⟨rfl, Nq109, ek109⟩ := hQ109
  have N109 := Fr.app N0 Nq109
  obtain ⟨T110, X110, e110, st110⟩ := getF X109 hx hZ hown (host := "") (Or.inl (wd146 hw)) Via.refl ek109 P1_ (g := (mkF mi 54 #[.val (.ref b), .val (.int (Int32.ofNat n)), .val (.int (Int32.ofNat cap)), .val (.int (Int32.ofNat n)), .val (.int ((Int32.ofNat n) - (Int32.ofNat cap))), .val (.int (Int32.ofNat (ncap cap n)))] [(.ref b), (.int (Int32.ofNat (ncap cap n)))])) rfl rfl (hb hby dj16_54)
  obtain ⟨fs, hr, hrun, hended, hW, hsame⟩ := X110.leave (v := some (.int ((Int32.ofNat (ncap cap n)) >>> ((0 : Int32) &&& 31)))) (fun hq => by rw [Bd.returns] at hq; cases hq)
  refine ⟨_, _, pre108 _ ?_, hrun, hended, _, _, rfl, ?_, ⟨_, rfl⟩, hW, hsame.mono (by decide) (by decide)⟩
  · show SP pg ev below (T106.setTop (mkF mi 28 #[.val (.ref b), .val (.int (Int32.ofNat n)), .val (.int (Int32.ofNat cap)), .val (.int (Int32.ofNat n)), .val (.int ((Int32.ofNat n) - (Int32.ofNat cap))), .unset] [(.int 2), (.int (Int32.ofNat cap)), (.int ((Int32.ofNat n) - (Int32.ofNat cap))), (.int (Int32.ofNat cap))])) _
    refine XS.iadd X106.here hx rfl (hb hby dj16_28) rfl ?_
    refine st109 _ ?_
    refine XS.istore X109.here hx rfl (hb hby dj16_32) rfl (l' := #[.val (.ref b), .val (.int (Int32.ofNat n)), .val (.int (Int32.ofNat cap)), .val (.int (Int32.ofNat n)), .val (.int ((Int32.ofNat n) - (Int32.ofNat cap))), .val (.int (Int32.ofNat (ncap cap n)))]) rfl ?_
    refine XS.iload X109.here hx rfl (hb hby dj16_34) rfl ?_
    refine X109.ldcInt hx hown (mvT hZ (wd262 hw)) (g := (mkF mi 36 #[.val (.ref b), .val (.int (Int32.ofNat n)), .val (.int (Int32.ofNat cap)), .val (.int (Int32.ofNat n)), .val (.int ((Int32.ofNat n) - (Int32.ofNat cap))), .val (.int (Int32.ofNat (ncap cap n)))] [(.int (Int32.ofNat (ncap cap n)))])) rfl (hb hby dj16_36) _ ?_
    refine XS.icmpYes X109.here hx rfl (pc0 := 38) (pc' := 51) rfl (hb hby dj16_38) rfl (feq (own_max (by have := own_ncap hgt hn hc5; omega))).2 (by decide) (by decide) ?_
    refine XS.iload X109.here hx rfl (hb hby dj16_51) rfl ?_
    refine XS.aloadN X109.here hx rfl (hb hby dj16_53) rfl rfl ?_
    refine st110 _ ?_
    refine XS.ishr X110.here hx rfl (hb hby dj16_57) rfl ?_
    show SP pg ev below (T110.setTop (mkF mi 58 #[.val (.ref b), .val (.int (Int32.ofNat n)), .val (.int (Int32.ofNat cap)), .val (.int (Int32.ofNat n)), .val (.int ((Int32.ofNat n) - (Int32.ofNat cap))), .val (.int (Int32.ofNat (ncap cap n)))] [(.int ((Int32.ofNat (ncap cap n)) >>> ((0 : Int32) &&& 31)))])) _
    exact retI X110 hx Bd.returns (hb hby dj16_58) hr
  · show Q_ncp Z b n t kb cap cs hE n0 _ T110.heap _
    rw [e110]
    exact ⟨(congrArg (fun z => some (Value.int z)) (own_sh0 _)), N109, rfl⟩
theorem dj17_0 : decode jc17 0 = .ok (.iload_n 0, 1) := by decide +kernel
theorem dj17_1 : decode jc17 1 = .ok (.iload_n 1, 1) := by decide +kernel
theorem dj17_2 : decode jc17 2 = .ok (.if_icmp .gt 7, 3) := by decide +kernel
theorem dj17_5 : decode jc17 5 = .ok (.iload_n 0, 1) := by decide +kernel
theorem dj17_6 : decode jc17 6 = .ok (.goto 4, 3) := by decide +kernel
theorem dj17_9 : decode jc17 9 = .ok (.iload_n 1, 1) := by decide +kernel
theorem dj17_10 : decode jc17 10 = .ok (.ireturn, 1) := by decide +kernel
theorem ef_mmin (mi : MethodId) (p : Int32) (q : Int32) : entryFrame mi #[(.int p), (.int q)] 2 = mkF mi 0 #[.val (.int p), .val (.int q)] [] := rfl
def Q_mmin (Z : State) (p q : Int32) (hE : Heap) (n0 : Nat) (vv : Option Value) (hh : Heap) (LL : List Loc) : Prop := (vv = some (.int (if q < p then q else p))) ∧ (Fr n0 LL) ∧ (hh = hE)
theorem rm_mmin (hw : HW a0 Z) (ws : List Cond) (p q : Int32) (hE : Heap) (n0 : Nat) (O : Old Z n0 hE) :
    MF la Z hE mn11 jc17 2 (some .int) ws (rr 0 0 0 0) #[(.int p), (.int q)] (Q_mmin Z p q hE n0) := by
  refine MetFree.of_bodySF (Jvm.Free.JP.mathPlain rfl (by decide +kernel)) hisR ?_
  intro pg ev sb mi gs below me cd s₁ Bd hml0 hPt hKt
  obtain ⟨rfl, hZ, hh⟩ := hPt
  have hx := Bd.exec
  have hby := Bd.bytes
  have hml : cd.maxLocals = 2 := hml0
  have hown : sb.vm.findClass c23_ = some mi.cls := findClass_of_methodNamed Bd.named
  have X0 : Stand pg la ev (rr 0 0 0 0) sb mi #[(.int p), (.int q)] below me cd s₁ [] 0 0 := Stand.of_body Bd
  have eE : s₁.heap = hE := by rw [← hh, Bd.state]; rfl
  have N0 := Fr.nil n0
  have pre0 : ∀ tt, SP pg ev below (s₁.setTop (mkF mi 0 #[.val (.int p), .val (.int q)] [])) tt → SP pg ev below (s₁.setTop (entryFrame mi #[(.int p), (.int q)] 2)) tt := fun tt kk => castTop (ef_mmin mi p q) kk
  have pre102 : ∀ tt, SP pg ev below (s₁.setTop (mkF mi 2 #[.val (.int p), .val (.int q)] [(.int q), (.int p)])) tt → SP pg ev below (s₁.setTop (entryFrame mi #[(.int p), (.int q)] 2)) tt := fun tt kk => pre0 _ (by
    show SP pg ev below (s₁.setTop (mkF mi 0 #[.val (.int p), .val (.int q)] [])) _
    refine XS.iloadN X0.here hx rfl (hb hby dj17_0) rfl ?_
    refine XS.iloadN X0.here hx rfl (hb hby dj17_1) rfl ?_
    exact kk)
  by_cases hc101 : q < p
  · obtain ⟨fs, hr, hrun, hended, hW, hsame⟩ := X0.leave (v := some (.int q)) (fun hq => by rw [Bd.returns] at hq; cases hq)
    refine ⟨_, _, pre102 _ ?_, hrun, hended, _, _, rfl, ?_, ⟨_, rfl⟩, hW, hsame.mono (by decide) (by decide)⟩
    · show SP pg ev below (s₁.setTop (mkF mi 2 #[.val (.int p), .val (.int q)] [(.int q), (.int p)])) _
      refine XS.icmpYes X0.here hx rfl (pc0 := 2) (pc' := 9) rfl (hb hby dj17_2) rfl (tlt hc101).2.2.1 (by decide) (by decide) ?_
      refine XS.iloadN X0.here hx rfl (hb hby dj17_9) rfl ?_
      show SP pg ev below (s₁.setTop (mkF mi 10 #[.val (.int p), .val (.int q)] [(.int q)])) _
      exact retI X0 hx Bd.returns (hb hby dj17_10) hr
    · show Q_mmin Z p q hE n0 _ s₁.heap _
      rw [eE]
      exact ⟨(by show some (Value.int q) = some (Value.int (if q < p then q else p)); rw [if_pos hc101]), N0, rfl⟩
  · obtain ⟨fs, hr, hrun, hended, hW, hsame⟩ := X0.leave (v := some (.int p)) (fun hq => by rw [Bd.returns] at hq; cases hq)
    refine ⟨_, _, pre102 _ ?_, hrun, hended, _, _, rfl, ?_, ⟨_, rfl⟩, hW, hsame.mono (by decide) (by decide)⟩
    · show SP pg ev below (s₁.setTop (mkF mi 2 #[.val (.int p), .val (.int q)] [(.int q), (.int p)])) _
      refine XS.icmpNo X0.here hx rfl (hb hby dj17_2) rfl (flt hc101).2.2.1 ?_
      refine XS.iloadN X0.here hx rfl (hb hby dj17_5) rfl ?_
      refine XS.goto X0.here hx rfl (pc0 := 6) (pc' := 10) rfl (hb hby dj17_6) (by decide) (by decide) ?_
      show SP pg ev below (s₁.setTop (mkF mi 10 #[.val (.int p), .val (.int q)] [(.int p)])) _
      exact retI X0 hx Bd.returns (hb hby dj17_10) hr
    · show Q_mmin Z p q hE n0 _ s₁.heap _
      rw [eE]
      exact ⟨(by show some (Value.int p) = some (Value.int (if q < p then q else p)); rw [if_neg hc101]), N0, rfl⟩
theorem dj2_0 : decode jc2 0 = .ok (.iload_n 1, 1) := by decide +kernel
theorem dj2_1 : decode jc2 1 = .ok (.aload_n 0, 1) := by decide +kernel
theorem dj2_2 : decode jc2 2 = .ok (.arraylength, 1) := by decide +kernel
theorem dj2_3 : decode jc2 3 = .ok (.if_icmp .ne 11, 3) := by decide +kernel
theorem dj2_14 : decode jc2 14 = .ok (.iload_n 1, 1) := by decide +kernel
theorem dj2_15 : decode jc2 15 = .ok (.newarray .byte, 2) := by decide +kernel
theorem dj2_17 : decode jc2 17 = .ok (.astore_n 2, 1) := by decide +kernel
theorem dj2_18 : decode jc2 18 = .ok (.aload_n 0, 1) := by decide +kernel
theorem dj2_19 : decode jc2 19 = .ok (.iconst 0, 1) := by decide +kernel
theorem dj2_20 : decode jc2 20 = .ok (.aload_n 2, 1) := by decide +kernel
theorem dj2_21 : decode jc2 21 = .ok (.iconst 0, 1) := by decide +kernel
theorem dj2_22 : decode jc2 22 = .ok (.aload_n 0, 1) := by decide +kernel
theorem dj2_23 : decode jc2 23 = .ok (.arraylength, 1) := by decide +kernel
theorem dj2_24 : decode jc2 24 = .ok (.iload_n 1, 1) := by decide +kernel
theorem dj2_25 : decode jc2 25 = .ok (.invokestatic 304, 3) := by decide +kernel
theorem dj2_28 : decode jc2 28 = .ok (.invokestatic 150, 3) := by decide +kernel
theorem dj2_31 : decode jc2 31 = .ok (.aload_n 2, 1) := by decide +kernel
theorem dj2_32 : decode jc2 32 = .ok (.areturn, 1) := by decide +kernel
theorem pn_java_util_Arrays : plainName "java/util/Arrays" = true := by first | (simp [plainName, overriddenIn]; done) | decide +kernel
theorem ef_cpo (mi : MethodId) (t : Addr) (c2 : Nat) : entryFrame mi #[(.ref t), (.int (Int32.ofNat c2))] 3 = mkF mi 0 #[.val (.ref t), .val (.int (Int32.ofNat c2)), .unset] [] := rfl
def Q_cpo (Z : State) (t : Addr) (kb : ClassId) (cap : Nat) (cs : List Int32) (c2 : Nat) (hE : Heap) (n0 : Nat) (vv : Option Value) (hh : Heap) (LL : List Loc) : Prop := ∃ r : Addr, ∃ kr : ClassId, (vv = some (.ref r)) ∧ (Fr n0 LL) ∧ (Keep hE hh []) ∧ (hE.size ≤ r) ∧ (Arv Z hh r kr .byte (Int32.ofNat c2) (pads c2 cs) (.int 0)) ∧ (Exa Z hh r "[B")
theorem rm_cpo (hw : HW a0 Z) (ws : List Cond) (t : Addr) (kb : ClassId) (cap : Nat) (cs : List Int32) (c2 : Nat) (hE : Heap) (n0 : Nat) (O : Old Z n0 hE) (P0_ : Arv Z hE t kb .byte (Int32.ofNat cap) (pads cap cs) (.int 0)) (hlc : cs.length ≤ cap) (hg : cap < c2) (hc2 : c2 ≤ 120) :
    MF la Z hE mn12 jc2 3 (some (.array .byte)) ws (rr 1 1 120 18) #[(.ref t), (.int (Int32.ofNat c2))] (Q_cpo Z t kb cap cs c2 hE n0) := by
  refine MetFree.of_bodySF (plainFor_of_name pn_java_util_Arrays) hisR ?_
  intro pg ev sb mi gs below me cd s₁ Bd hml0 hPt hKt
  obtain ⟨rfl, hZ, hh⟩ := hPt
  have hx := Bd.exec
  have hby := Bd.bytes
  have hml : cd.maxLocals = 3 := hml0
  have hown : sb.vm.findClass c10_ = some mi.cls := findClass_of_methodNamed Bd.named
  have X0 : Stand pg la ev (rr 1 1 120 18) sb mi #[(.ref t), (.int (Int32.ofNat c2))] below me cd s₁ [] 0 0 := Stand.of_body Bd
  have eE : s₁.heap = hE := by rw [← hh, Bd.state]; rfl
  have N0 := Fr.nil n0
  have pre0 : ∀ tt, SP pg ev below (s₁.setTop (mkF mi 0 #[.val (.ref t), .val (.int (Int32.ofNat c2)), .unset] [])) tt → SP pg ev below (s₁.setTop (entryFrame mi #[(.ref t), (.int (Int32.ofNat c2))] 3)) tt := fun tt kk => castTop (ef_cpo mi t c2) kk
  obtain ⟨cl101, Ar101, -, Sz101, Nn101, -, -⟩ := id P0_
  obtain ⟨T102, h102, k102, X102, e102, E102, A102, B102, st102⟩ := newPE (aty := .byte) X0 hx hZ (wd23 hw) eE (g := (mkF mi 15 #[.val (.ref t), .val (.int (Int32.ofNat c2)), .unset] [(.int (Int32.ofNat c2))])) rfl (hb hby dj2_15) rfl (own_len_nn (by omega)) (cap := 120) (by rw [own_n32 (by omega)]; exact hc2) (by decide) (by decide) (by decide) (ad := "[B") (by decide)
  obtain ⟨b102, q102⟩ : ∃ z, z = hE.size := ⟨_, rfl⟩
  rw [← q102] at A102 B102 st102
  have f103 : Arv Z h102 b102 k102 .byte (Int32.ofNat c2) ([] ++ List.replicate (c2) (.int 0)) (.int 0) := (Arv.new A102 (own_len_nn (by omega))).pad (pad_rep [] (.int 0) (c2))
  have f104 : Arv Z h102 t kb .byte (Int32.ofNat cap) (pads cap cs) (.int 0) := (P0_.ext E102)
  obtain ⟨cl105, Ar105, -, Sz105, Nn105, -, -⟩ := id f104
  have O106 : Old Z n0 h102 := (O.ext E102)
  obtain ⟨v107, _, ⟨T107, L107, k107, n107⟩, -, X107, ⟨Lc107, hQ107, l107, y107, z107⟩, st107⟩ := Jvm.LawKit.callS X102 hx (y := mn11) hown (mvT hZ (wd236 hw)) (mvT hZ (wd237 hw)) (mvT hZ (wd238 hw)) (mvT hZ (wd239 hw)) (by decide) (backOf (W := 4) (rm_mmin la Z a0 hw [] (Int32.ofNat cap) (Int32.ofNat c2) h102 n0 O106) hZ (wd239 hw) (wd238 hw) (by decide) (by decide)) (g := (mkF mi 25 #[.val (.ref t), .val (.int (Int32.ofNat c2)), .val (.ref b102)] [(.int (Int32.ofNat c2)), (.int (Int32.ofNat cap)), (.int 0), (.ref b102), (.int 0), (.ref t)])) rfl (by rw [hml]; rfl) (argsL := [(.int (Int32.ofNat cap)), (.int (Int32.ofNat c2))]) (rest := [(.int 0), (.ref b102), (.int 0), (.ref t)]) (lenOf pd_4 rfl) rfl (Nat.le_of_ble_eq_true rfl) (hb hby dj2_25) (fun _ _ => ⟨rfl, e102, (by decide : 1 + 0 ≤ _), (by decide : 120 + 0 ≤ _)⟩)
  dsimp only [Pt.U, Pt.locs, Pt.cells, Pt.slots] at X107 l107 y107 z107 st107 hQ107
  subst l107 y107 z107
  obtain ⟨rfl, Nq107, ek107⟩ := hQ107
  have N107 := Fr.app N0 Nq107
  have pre108 : ∀ tt, SP pg ev below (T107.setTop (mkF mi 28 #[.val (.ref t), .val (.int (Int32.ofNat c2)), .val (.ref b102)] [(.int (if (Int32.ofNat c2) < (Int32.ofNat cap) then (Int32.ofNat c2) else (Int32.ofNat cap))), (.int 0), (.ref b102), (.int 0), (.ref t)])) tt → SP pg ev below (s₁.setTop (entryFrame mi #[(.ref t), (.int (Int32.ofNat c2))] 3)) tt := fun tt kk => pre0 _ (by
    show SP pg ev below (s₁.setTop (mkF mi 0 #[.val (.ref t), .val (.int (Int32.ofNat c2)), .unset] [])) _
    refine XS.iloadN X0.here hx rfl (hb hby dj2_0) rfl ?_
    refine XS.aloadN X0.here hx rfl (hb hby dj2_1) rfl rfl ?_
    refine X0.arraylength hx (cell := cl101) (by rw [eE]; exact Ar101.1) (State.isArrayOf_alike hZ.alike Ar101.2.1) (g := (mkF mi 2 #[.val (.ref t), .val (.int (Int32.ofNat c2)), .unset] [(.ref t), (.int (Int32.ofNat c2))])) rfl (rest := [(.int (Int32.ofNat c2))]) rfl (hb hby dj2_2) _ ?_
    rw [len_of Sz101 Nn101]
    refine XS.icmpYes X0.here hx rfl (pc0 := 3) (pc' := 14) rfl (hb hby dj2_3) rfl (feq (fun q => absurd ((own_eq32 (by omega) (by omega)).mp q) (by omega))).2 (by decide) (by decide) ?_
    refine XS.iloadN X0.here hx rfl (hb hby dj2_14) rfl ?_
    refine st102 _ ?_
    refine XS.astoreN X102.here hx rfl (hb hby dj2_17) rfl rfl (l' := #[.val (.ref t), .val (.int (Int32.ofNat c2)), .val (.ref b102)]) rfl ?_
    refine XS.aloadN X102.here hx rfl (hb hby dj2_18) rfl rfl ?_
    refine XS.iconst X102.here hx rfl (hb hby dj2_19) ?_
    refine XS.aloadN X102.here hx rfl (hb hby dj2_20) rfl rfl ?_
    refine XS.iconst X102.here hx rfl (hb hby dj2_21) ?_
    refine XS.aloadN X102.here hx rfl (hb hby dj2_22) rfl rfl ?_
    refine X102.arraylength hx (cell := cl105) (by rw [e102]; exact Ar105.1) (State.isArrayOf_alike hZ.alike Ar105.2.1) (g := (mkF mi 23 #[.val (.ref t), .val (.int (Int32.ofNat c2)), .val (.ref b102)] [(.ref t), (.int 0), (.ref b102), (.int 0), (.ref t)])) rfl (rest := [(.int 0), (.ref b102), (.int 0), (.ref t)]) rfl (hb hby dj2_23) _ ?_
    rw [len_of Sz105 Nn105]
    refine XS.iloadN X102.here hx rfl (hb hby dj2_24) rfl ?_
    refine st107 _ ?_
    exact kk)
  have pre109 : ∀ tt, SP pg ev below (T107.setTop (mkF mi 28 #[.val (.ref t), .val (.int (Int32.ofNat c2)), .val (.ref b102)] [(.int (Int32.ofNat cap)), (.int 0), (.ref b102), (.int 0), (.ref t)])) tt → SP pg ev below (s₁.setTop (entryFrame mi #[(.ref t), (.int (Int32.ofNat c2))] 3)) tt := fun tt kk => pre108 tt (by rw [if_neg (fun q => absurd ((own_lt32 (by omega) (by omega)).mp q) (by omega))]; exact kk)
  have g_b102 : n0 ≤ b102 := Nat.le_trans (Nat.le_trans (Nat.le_of_eq O.1.symm) O.2.1) (Nat.le_of_eq q102.symm)
  obtain ⟨T110, h110, L110, X110, e110, N110, Kq110, V110, st110⟩ := cpA X107 hx hZ hown (wd240 hw) (wd190 hw) (wd188 hw) (wd189 hw) ek107 (us := (pads cap cs)) f104 f103 (Or.inl ⟨rfl, rfl⟩) (by decide) (by decide) (own_len_nn (by omega)) (by rw [own_n32 (n := cap) (by omega)]; exact Nat.le_of_eq (Nat.zero_add _)) (by rw [own_n32 (n := cap) (by omega), own_n32 (n := c2) (by omega)]; show 0 + cap ≤ c2; omega) (own_us (by rw [own_n32 (n := cap) (by omega), own_pads_len hlc])) (by rw [own_n32 (n := cap) (by omega)]; simp; omega) N107 g_b102 (g := (mkF mi 28 #[.val (.ref t), .val (.int (Int32.ofNat c2)), .val (.ref b102)] [(.int (Int32.ofNat cap)), (.int 0), (.ref b102), (.int 0), (.ref t)])) rfl (by rw [hml]; rfl) (rest := []) rfl (hb hby dj2_28) (by decide) (W := 0) (Nat.le_of_ble_eq_true rfl) (by decide)
  have f111 : Arv Z h110 b102 k102 .byte (Int32.ofNat c2) (pads c2 cs) (.int 0) := by have hq := V110; rw [own_n32 (n := cap) (by omega), show (0 : Int32).toNatClampNeg = 0 from rfl, own_pads_grow hlc (by omega)] at hq; exact hq
  have f112 : Exa Z h110 b102 "[B" := (B102.keep Kq110)
  obtain ⟨fs, hr, hrun, hended, hW, hsame⟩ := X110.leave (v := some (.ref b102)) (fun hq => by rw [Bd.returns] at hq; cases hq)
  refine ⟨_, _, pre109 _ ?_, hrun, hended, _, _, rfl, ?_, ⟨_, rfl⟩, hW, hsame.mono (by decide) (by decide)⟩
  · show SP pg ev below (T107.setTop (mkF mi 28 #[.val (.ref t), .val (.int (Int32.ofNat c2)), .val (.ref b102)] [(.int (Int32.ofNat cap)), (.int 0), (.ref b102), (.int 0), (.ref t)])) _
    refine st110 _ ?_
    refine XS.aloadN X110.here hx rfl (hb hby dj2_31) rfl rfl ?_
    show SP pg ev below (T110.setTop (mkF mi 32 #[.val (.ref t), .val (.int (Int32.ofNat c2)), .val (.ref b102)] [(.ref b102)])) _
    jvm_step X110.here [X110.here.top, hx, (hb hby dj2_32), X110.method', Bd.returns, Value.isRef, FieldType.isReference]
    first | (intro acts; rw [hr _ acts rfl rfl rfl]) | rw [hr _ _ rfl rfl rfl]
    exact Steps.refl _
  · show Q_cpo Z t kb cap cs c2 hE n0 _ T110.heap _
    rw [e110]
    exact ⟨b102, k102, rfl, N110, (((Keep.refl hE []).ext E102).trans Kq110 (allS (Or.inr (Nat.le_of_eq q102.symm)) all0)), (Nat.le_of_eq q102.symm), f111, f112⟩
theorem dj32_17 : decode jc32 17 = .ok (.aload_n 0, 1) := by decide +kernel
theorem dj32_18 : decode jc32 18 = .ok (.aload_n 0, 1) := by decide +kernel
theorem dj32_19 : decode jc32 19 = .ok (.getfield 15, 3) := by decide +kernel
theorem dj32_22 : decode jc32 22 = .ok (.aload_n 0, 1) := by decide +kernel
theorem dj32_23 : decode jc32 23 = .ok (.iload_n 1, 1) := by decide +kernel
theorem dj32_24 : decode jc32 24 = .ok (.invokevirtual 104, 3) := by decide +kernel
theorem dj32_27 : decode jc32 27 = .ok (.aload_n 0, 1) := by decide +kernel
theorem dj32_28 : decode jc32 28 = .ok (.getfield 22, 3) := by decide +kernel
theorem dj32_31 : decode jc32 31 = .ok (.ishl, 1) := by decide +kernel
theorem dj32_32 : decode jc32 32 = .ok (.invokestatic 108, 3) := by decide +kernel
theorem dj32_35 : decode jc32 35 = .ok (.putfield 15, 3) := by decide +kernel
theorem pd_6 : parseMethodDescriptor "(I)I" = some ⟨[.int], some .int⟩ := by decide +kernel
theorem pd_7 : parseMethodDescriptor "([BI)[B" = some ⟨[(.array .byte), .int], some (.array .byte)⟩ := by decide +kernel
theorem ef_ecg (mi : MethodId) (b : Addr) (n : Nat) : entryFrame mi #[(.ref b), (.int (Int32.ofNat n))] 3 = mkF mi 0 #[.val (.ref b), .val (.int (Int32.ofNat n)), .unset] [] := rfl
def Q_ecg (Z : State) (b : Addr) (n : Nat) (t : Addr) (kb : ClassId) (cap : Nat) (cs : List Int32) (p : Int32) (hE : Heap) (n0 : Nat) (vv : Option Value) (hh : Heap) (LL : List Loc) : Prop := ∃ r : Addr, ∃ kr : ClassId, (vv = none) ∧ (Fr n0 LL) ∧ (Keep hE hh [b]) ∧ (hE.size ≤ r) ∧ (Exa Z hh b c3_) ∧ (Fld Z hh b c2_ "value" "[B" (.ref r)) ∧ (Fld Z hh b c2_ "coder" "B" (.int 0)) ∧ (Fld Z hh b c2_ "count" "I" (.int p)) ∧ (Arv Z hh r kr .byte (Int32.ofNat (ncap cap n)) (pads (ncap cap n) cs) (.int 0)) ∧ (Exa Z hh r "[B")
theorem rm_ecg (hw : HW a0 Z) (ws : List Cond) (b : Addr) (n : Nat) (t : Addr) (kb : ClassId) (cap : Nat) (cs : List Int32) (p : Int32) (hE : Heap) (n0 : Nat) (O : Old Z n0 hE) (P0_ : Exa Z hE b c3_) (P1_ : Fld Z hE b c2_ "value" "[B" (.ref t)) (P2_ : Fld Z hE b c2_ "coder" "B" (.int 0)) (P3_ : Arv Z hE t kb .byte (Int32.ofNat cap) (pads cap cs) (.int 0)) (P4_ : Fld Z hE b c2_ "count" "I" (.int p)) (g_b : n0 ≤ b) (ne_t_b : t ≠ b) (hgt : cap < n) (hn : n ≤ 120) (hc5 : cap ≤ 50) (hlc : cs.length ≤ cap) :
    MF la Z hE mn7 jc32 3 none ws (rr 3 1 120 48) #[(.ref b), (.int (Int32.ofNat n))] (Q_ecg Z b n t kb cap cs p hE n0) := by
  refine MetFree.of_bodySF (plainFor_of_name pn_java_lang_AbstractStringBuilder) hisR ?_
  intro pg ev sb mi gs below me cd s₁ Bd hml0 hPt hKt
  obtain ⟨rfl, hZ, hh⟩ := hPt
  have hx := Bd.exec
  have hby := Bd.bytes
  have hml : cd.maxLocals = 3 := hml0
  have hown : sb.vm.findClass c2_ = some mi.cls := findClass_of_methodNamed Bd.named
  have X0 : Stand pg la ev (rr 3 1 120 48) sb mi #[(.ref b), (.int (Int32.ofNat n))] below me cd s₁ [] 0 0 := Stand.of_body Bd
  have eE : s₁.heap = hE := by rw [← hh, Bd.state]; rfl
  have N0 := Fr.nil n0
  have pre0 : ∀ tt, SP pg ev below (s₁.setTop (mkF mi 0 #[.val (.ref b), .val (.int (Int32.ofNat n)), .unset] [])) tt → SP pg ev below (s₁.setTop (entryFrame mi #[(.ref b), (.int (Int32.ofNat n))] 3)) tt := fun tt kk => castTop (ef_ecg mi b n) kk
  obtain ⟨T101, X101, e101, st101⟩ := getF X0 hx hZ hown (host := "") (Or.inl (wd144 hw)) Via.refl eE P1_ (g := (mkF mi 1 #[.val (.ref b), .val (.int (Int32.ofNat n)), .unset] [(.ref b)])) rfl rfl (hb hby dj32_1)
  obtain ⟨cl102, Ar102, -, Sz102, Nn102, -, -⟩ := id P3_
  obtain ⟨T103, X103, e103, st103⟩ := getF X101 hx hZ hown (host := "") (Or.inl (wd146 hw)) Via.refl e101 P2_ (g := (mkF mi 6 #[.val (.ref b), .val (.int (Int32.ofNat n)), .unset] [(.ref b), (.int (Int32.ofNat cap))])) rfl rfl (hb hby dj32_6)
  have pre104 : ∀ tt, SP pg ev below (T103.setTop (mkF mi 10 #[.val (.ref b), .val (.int (Int32.ofNat n)), .unset] [(.int ((Int32.ofNat cap) >>> ((0 : Int32) &&& 31)))])) tt → SP pg ev below (s₁.setTop (entryFrame mi #[(.ref b), (.int (Int32.ofNat n))] 3)) tt := fun tt kk => pre0 _ (by
    show SP pg ev below (s₁.setTop (mkF mi 0 #[.val (.ref b), .val (.int (Int32.ofNat n)), .unset] [])) _
    refine XS.aloadN X0.here hx rfl (hb hby dj32_0) rfl rfl ?_
    refine st101 _ ?_
    refine X101.arraylength hx (cell := cl102) (by rw [e101]; exact Ar102.1) (State.isArrayOf_alike hZ.alike Ar102.2.1) (g := (mkF mi 4 #[.val (.ref b), .val (.int (Int32.ofNat n)), .unset] [(.ref t)])) rfl (rest := []) rfl (hb hby dj32_4) _ ?_
    rw [len_of Sz102 Nn102]
    refine XS.aloadN X101.here hx rfl (hb hby dj32_5) rfl rfl ?_
    refine st103 _ ?_
    refine XS.ishr X103.here hx rfl (hb hby dj32_9) rfl ?_
    exact kk)
  have pre105 : ∀ tt, SP pg ev below (T103.setTop (mkF mi 10 #[.val (.ref b), .val (.int (Int32.ofNat n)), .unset] [(.int (Int32.ofNat cap))])) tt → SP pg ev below (s₁.setTop (entryFrame mi #[(.ref b), (.int (Int32.ofNat n))] 3)) tt := fun tt kk => pre104 tt (by rw [own_sh0]; exact kk)
  obtain ⟨T106, X106, e106, st106⟩ := getF X103 hx hZ hown (host := "") (Or.inl (wd144 hw)) Via.refl e103 P1_ (g := (mkF mi 19 #[.val (.ref b), .val (.int (Int32.ofNat n)), .val (.int (Int32.ofNat cap))] [(.ref b), (.ref b)])) rfl rfl (hb hby dj32_19)
  obtain ⟨cq107, qq107, qq107'⟩ := P0_.cell
  obtain ⟨v107, _, ⟨T107, L107, k107, n107⟩, -, X107, ⟨Lc107, hQ107, l107, y107, z107⟩, st107⟩ := X106.privateBack hx (y := mn10) hown (mvT hZ (wd249 hw)) (mvT hZ (wd250 hw)) (own_selP (mvT (args := #[]) hZ (wd169 hw)) rfl (Cond.privateMethod_at (mvP hZ (wd251 hw) (args := #[]))) (mvT hZ (wd250 hw)) (by decide)) (Cond.privateMethod_at (mvP hZ (wd251 hw) (args := #[]))) (mvT hZ (wd253 hw)) (by decide) (backOf (W := 2) (rm_ncp la Z a0 hw [] b n t kb cap cs hE n0 O P1_ P2_ P3_ (hgt : cap < n) (hn : n ≤ 120) (hc5 : cap ≤ 50)) hZ (wd253 hw) (wd140 hw) (by decide) (by decide)) (g := (mkF mi 24 #[.val (.ref b), .val (.int (Int32.ofNat n)), .val (.int (Int32.ofNat cap))] [(.int (Int32.ofNat n)), (.ref b), (.ref t), (.ref b)])) rfl (by rw [hml]; rfl) (Steps.refl _) (a := b) (by rw [e106]; exact qq107) qq107' (argsL := [(.int (Int32.ofNat n))]) (rest := [(.ref t), (.ref b)]) (lenOf pd_6 rfl) rfl (Nat.le_of_ble_eq_true rfl) (hb hby dj32_24) (fun _ _ => ⟨rfl, e106, (by decide : 0 + 0 ≤ _), (by decide : 0 + 0 ≤ _)⟩)
  dsimp only [Pt.U, Pt.locs, Pt.cells, Pt.slots] at X107 l107 y107 z107 st107 hQ107
  subst l107 y107 z107
  obtain ⟨rfl, Nq107, ek107⟩ := hQ107
  have N107 := Fr.app N0 Nq107
  obtain ⟨T108, X108, e108, st108⟩ := getF X107 hx hZ hown (host := "") (Or.inl (wd146 hw)) Via.refl ek107 P2_ (g := (mkF mi 28 #[.val (.ref b), .val (.int (Int32.ofNat n)), .val (.int (Int32.ofNat cap))] [(.ref b), (.int (Int32.ofNat (ncap cap n))), (.ref t), (.ref b)])) rfl rfl (hb hby dj32_28)
  have pre109 : ∀ tt, SP pg ev below (T108.setTop (mkF mi 32 #[.val (.ref b), .val (.int (Int32.ofNat n)), .val (.int (Int32.ofNat cap))] [(.int ((Int32.ofNat (ncap cap n)) <<< ((0 : Int32) &&& 31))), (.ref t), (.ref b)])) tt → SP pg ev below (s₁.setTop (entryFrame mi #[(.ref b), (.int (Int32.ofNat n))] 3)) tt := fun tt kk => pre105 _ (by
    show SP pg ev below (T103.setTop (mkF mi 10 #[.val (.ref b), .val (.int (Int32.ofNat n)), .unset] [(.int (Int32.ofNat cap))])) _
    refine XS.istoreN X103.here hx rfl (hb hby dj32_10) rfl (l' := #[.val (.ref b), .val (.int (Int32.ofNat n)), .val (.int (Int32.ofNat cap))]) rfl ?_
    refine XS.iloadN X103.here hx rfl (hb hby dj32_11) rfl ?_
    refine XS.iloadN X103.here hx rfl (hb hby dj32_12) rfl ?_
    refine XS.isub X103.here hx rfl (hb hby dj32_13) rfl ?_
    refine XS.ifNo X103.here hx rfl (hb hby dj32_14) rfl ((if0 _ _).trans (tlt ((own_gap (by omega) (by omega)).mpr hgt)).2.2.2) ?_
    refine XS.aloadN X103.here hx rfl (hb hby dj32_17) rfl rfl ?_
    refine XS.aloadN X103.here hx rfl (hb hby dj32_18) rfl rfl ?_
    refine st106 _ ?_
    refine XS.aloadN X106.here hx rfl (hb hby dj32_22) rfl rfl ?_
    refine XS.iloadN X106.here hx rfl (hb hby dj32_23) rfl ?_
    refine st107.trans ?_
    refine XS.aloadN X107.here hx rfl (hb hby dj32_27) rfl rfl ?_
    refine st108 _ ?_
    refine XS.ishl X108.here hx rfl (hb hby dj32_31) rfl ?_
    exact kk)
  have pre110 : ∀ tt, SP pg ev below (T108.setTop (mkF mi 32 #[.val (.ref b), .val (.int (Int32.ofNat n)), .val (.int (Int32.ofNat cap))] [(.int (Int32.ofNat (ncap cap n))), (.ref t), (.ref b)])) tt → SP pg ev below (s₁.setTop (entryFrame mi #[(.ref b), (.int (Int32.ofNat n))] 3)) tt := fun tt kk => pre109 tt (by rw [own_shl0]; exact kk)
  obtain ⟨v111, _, ⟨T111, L111, k111, n111⟩, -, X111, ⟨Lc111, hQ111, l111, y111, z111⟩, st111⟩ := Jvm.LawKit.callS X108 hx (y := mn12) hown (mvT hZ (wd263 hw)) (mvT hZ (wd264 hw)) (mvT hZ (wd228 hw)) (mvT hZ (wd265 hw)) (by decide) (backOf (W := 1) (rm_cpo la Z a0 hw [] t kb cap cs (ncap cap n) hE n0 O P3_ (hlc : cs.length ≤ cap) ((own_ncap hgt hn hc5).2.1 : cap < (ncap cap n)) ((own_ncap hgt hn hc5).2.2 : (ncap cap n) ≤ 120)) hZ (wd265 hw) (wd228 hw) (by decide) (by decide)) (g := (mkF mi 32 #[.val (.ref b), .val (.int (Int32.ofNat n)), .val (.int (Int32.ofNat cap))] [(.int (Int32.ofNat (ncap cap n))), (.ref t), (.ref b)])) rfl (by rw [hml]; rfl) (argsL := [(.ref t), (.int (Int32.ofNat (ncap cap n)))]) (rest := [(.ref b)]) (lenOf pd_7 rfl) rfl (Nat.le_of_ble_eq_true rfl) (hb hby dj32_32) (fun _ _ => ⟨rfl, e108, (by decide : 0 + 1 ≤ _), (by decide : 0 + 120 ≤ _)⟩)
  dsimp only [Pt.U, Pt.locs, Pt.cells, Pt.slots] at X111 l111 y111 z111 st111 hQ111
  subst l111 y111 z111
  obtain ⟨r_111, kr_111, rfl, Nq111, Kq111, fr_r_111, r111_0, r111_1⟩ := hQ111
  have N111 := Fr.app N107 Nq111
  have f112 : Exa Z T111.heap b c3_ := (P0_.keep Kq111)
  have f113 : Fld Z T111.heap b c2_ "value" "[B" (.ref t) := (P1_.keep Kq111 nin0)
  obtain ⟨T114, h114, X114, e114, W114, st114⟩ := putF X111 hx hZ hown (host := "") (Or.inl (wd144 hw)) Via.refl rfl f113 f112 (Or.inl (wd145 hw)) (wd131 hw) (ty := (.array .byte)) (by decide) rfl rfl (g := (mkF mi 35 #[.val (.ref b), .val (.int (Int32.ofNat n)), .val (.int (Int32.ofNat cap))] [(.ref r_111), (.ref b)])) rfl rfl (hb hby dj32_35)
  have N114 := Fr.snoc X114 N111 g_b
  have f115 : Fld Z h114 b c2_ "value" "[B" (.ref r_111) := f113.same W114
  have f116 : Exa Z h114 b c3_ := (f112.keep (Keep.of_wr W114))
  have f117 : Fld Z h114 b c2_ "coder" "B" (.int 0) := ((P2_.keep Kq111 nin0).other W114 (Or.inr (slot_ne (Or.inl (wd147 hw)) (Or.inl (wd145 hw)) (by decide) (t := .byte) (t' := (.array .byte)) (by decide) (by decide))))
  have f118 : Fld Z h114 b c2_ "count" "I" (.int p) := ((P4_.keep Kq111 nin0).other W114 (Or.inr (slot_ne (Or.inl (wd165 hw)) (Or.inl (wd145 hw)) (by decide) (t := .int) (t' := (.array .byte)) (by decide) (by decide))))
  have ne_b_r_111 : b ≠ r_111 := Nat.ne_of_lt (Nat.lt_of_lt_of_le P0_.lt (Nat.le_trans (Nat.le_refl _) fr_r_111))
  have f119 : Arv Z h114 r_111 kr_111 .byte (Int32.ofNat (ncap cap n)) (pads (ncap cap n) cs) (.int 0) := (r111_0.keep (Keep.of_wr W114) (ninS (Ne.symm ne_b_r_111) nin0))
  have f120 : Exa Z h114 r_111 "[B" := (r111_1.keep (Keep.of_wr W114))
  obtain ⟨fs, hr, hrun, hended, hW, hsame⟩ := X114.leave (v := none) (fun _ => rfl)
  refine ⟨_, _, pre110 _ ?_, hrun, hended, _, _, rfl, ?_, ⟨_, rfl⟩, hW, hsame.mono (by decide) (by decide)⟩
  · show SP pg ev below (T108.setTop (mkF mi 32 #[.val (.ref b), .val (.int (Int32.ofNat n)), .val (.int (Int32.ofNat cap))] [(.int (Int32.ofNat (ncap cap n))), (.ref t), (.ref b)])) _
    refine st111 _ ?_
    refine st114 _ ?_
    show SP pg ev below (T114.setTop (mkF mi 38 #[.val (.ref b), .val (.int (Int32.ofNat n)), .val (.int (Int32.ofNat cap))] [])) _
    exact X114.returnOut hx Bd.returns (hb hby dj32_38) hr
  · show Q_ecg Z b n t kb cap cs p hE n0 _ T114.heap _
    rw [e114]
    exact ⟨r_111, kr_111, rfl, N114, (((Keep.refl hE [b]).trans Kq111 all0).trans (Keep.of_wr W114) (allS (Or.inl (List.mem_of_getElem? (i := 0) rfl)) all0)), fr_r_111, f116, f115, f117, f118, f119, f120⟩
theorem dj18_0 : decode jc18 0 = .ok (.aload_n 1, 1) := by decide +kernel
theorem dj18_1 : decode jc18 1 = .ok (.ifnonnull 8, 3) := by decide +kernel
theorem dj18_9 : decode jc18 9 = .ok (.aload_n 1, 1) := by decide +kernel
theorem dj18_10 : decode jc18 10 = .ok (.invokevirtual 32, 3) := by decide +kernel
theorem dj18_13 : decode jc18 13 = .ok (.istore_n 2, 1) := by decide +kernel
theorem dj18_14 : decode jc18 14 = .ok (.aload_n 0, 1) := by decide +kernel
theorem dj18_15 : decode jc18 15 = .ok (.aload_n 0, 1) := by decide +kernel
theorem dj18_16 : decode jc18 16 = .ok (.getfield 79, 3) := by decide +kernel
theorem dj18_19 : decode jc18 19 = .ok (.iload_n 2, 1) := by decide +kernel
theorem dj18_20 : decode jc18 20 = .ok (.iadd, 1) := by decide +kernel
theorem dj18_21 : decode jc18 21 = .ok (.invokevirtual 100, 3) := by decide +kernel
theorem dj18_24 : decode jc18 24 = .ok (.aload_n 0, 1) := by decide +kernel
theorem dj18_25 : decode jc18 25 = .ok (.aload_n 0, 1) := by decide +kernel
theorem dj18_26 : decode jc18 26 = .ok (.getfield 79, 3) := by decide +kernel
theorem dj18_29 : decode jc18 29 = .ok (.aload_n 1, 1) := by decide +kernel
theorem dj18_30 : decode jc18 30 = .ok (.invokevirtual 208, 3) := by decide +kernel
theorem dj18_33 : decode jc18 33 = .ok (.aload_n 0, 1) := by decide +kernel
theorem dj18_34 : decode jc18 34 = .ok (.dup, 1) := by decide +kernel
theorem dj18_35 : decode jc18 35 = .ok (.getfield 79, 3) := by decide +kernel
theorem dj18_38 : decode jc18 38 = .ok (.iload_n 2, 1) := by decide +kernel
theorem dj18_39 : decode jc18 39 = .ok (.iadd, 1) := by decide +kernel
theorem dj18_40 : decode jc18 40 = .ok (.putfield 79, 3) := by decide +kernel
theorem dj18_43 : decode jc18 43 = .ok (.aload_n 0, 1) := by decide +kernel
theorem dj18_44 : decode jc18 44 = .ok (.areturn, 1) := by decide +kernel
theorem pd_8 : parseMethodDescriptor "()I" = some ⟨[], some .int⟩ := by decide +kernel
theorem pd_9 : parseMethodDescriptor "(ILjava/lang/String;)V" = some ⟨[.int, (.object "java/lang/String")], none⟩ := by decide +kernel
theorem ef_aap_fit (mi : MethodId) (b : Addr) (y : Addr) : entryFrame mi #[(.ref b), (.ref y)] 3 = mkF mi 0 #[.val (.ref b), .val (.ref y), .unset] [] := rfl
def Q_aap_fit (Z : State) (b y t u : Addr) (cap : Nat) (cs ds : List Int32) (zc : Int32) (hE : Heap) (n0 : Nat) (vv : Option Value) (hh : Heap) (LL : List Loc) : Prop := (vv = some (.ref b)) ∧ (Fr n0 LL) ∧ (Keep hE hh [b, t]) ∧ (SBl Z hh b t cap (cs ++ ds))
theorem rm_aap_fit (hw : HW a0 Z) (ws : List Cond) (b y t u : Addr) (cap : Nat) (cs ds : List Int32) (zc : Int32) (hE : Heap) (n0 : Nat) (O : Old Z n0 hE) (P0_ : SBl Z hE b t cap cs) (P1_ : LStr Z hE y u ds) (D0_ : Sta Z Z.heap c1_ c6_ "Z" (.int zc)) (g_b : n0 ≤ b) (g_t : n0 ≤ t) (ne_b_t : b ≠ t) (ne_y_b : y ≠ b) (ne_u_b : u ≠ b) (hfit : cs.length + ds.length ≤ cap) (hzc : ¬ (zc = (0 : Int32))) :
    MF la Z hE mn13 jc18 3 (some (.object c2_)) ws (rr 3 0 0 47) #[(.ref b), (.ref y)] (Q_aap_fit Z b y t u cap cs ds zc hE n0) := by
  refine MetFree.of_bodySF (plainFor_of_name pn_java_lang_AbstractStringBuilder) hisR ?_
  intro pg ev sb mi gs below me cd s₁ Bd hml0 hPt hKt
  obtain ⟨rfl, hZ, hh⟩ := hPt
  have hx := Bd.exec
  have hby := Bd.bytes
  have hml : cd.maxLocals = 3 := hml0
  have hown : sb.vm.findClass c2_ = some mi.cls := findClass_of_methodNamed Bd.named
  have X0 : Stand pg la ev (rr 3 0 0 47) sb mi #[(.ref b), (.ref y)] below me cd s₁ [] 0 0 := Stand.of_body Bd
  have eE : s₁.heap = hE := by rw [← hh, Bd.state]; rfl
  have N0 := Fr.nil n0
  have pre0 : ∀ tt, SP pg ev below (s₁.setTop (mkF mi 0 #[.val (.ref b), .val (.ref y), .unset] [])) tt → SP pg ev below (s₁.setTop (entryFrame mi #[(.ref b), (.ref y)] 3)) tt := fun tt kk => castTop (ef_aap_fit mi b y) kk
  obtain ⟨bE101, bV101, bC101, bN101, ⟨kb101, bK101⟩, bX101, bb101, bl101, bm101⟩ := id P0_
  obtain ⟨sE102, sV102, sC102, ⟨kb102, sK102⟩, sb102, sl102⟩ := id P1_
  obtain ⟨cq103, kq103, q103a, q103b, q103c⟩ := isOf hZ eE sE102
  obtain ⟨v103, _, ⟨T103, L103, k103, n103⟩, -, X103, ⟨Lc103, hQ103, l103, y103, z103⟩, st103⟩ := X0.virtualBack hx (y := mn1) (z := mn1) hown (mvT hZ (wd159 hw)) (mvT hZ (wd160 hw)) (notFace_of_selects (args := #[]) (mvT hZ (wd162 hw))) (mvT hZ (wd162 hw)) (mvT hZ (wd161 hw)) (by decide) (backOf (W := 0) (rm_slen la Z a0 hw [] y u ds zc hE n0 O P1_ D0_ (hzc : ¬ (zc = (0 : Int32)))) hZ (wd163 hw) (wd6 hw) (by decide) (by decide)) q103a q103c (g := (mkF mi 10 #[.val (.ref b), .val (.ref y), .unset] [(.ref y)])) rfl (by rw [hml]; rfl) (Steps.refl _) (argsL := []) (rest := []) (lenOf pd_8 rfl) rfl (Nat.le_of_ble_eq_true rfl) (hb hby dj18_10) (fun _ _ => ⟨rfl, eE, (by decide : 0 + 0 ≤ _), (by decide : 0 + 0 ≤ _)⟩)
  dsimp only [Pt.U, Pt.locs, Pt.cells, Pt.slots] at X103 l103 y103 z103 st103 hQ103
  subst l103 y103 z103
  obtain ⟨rfl, Nq103, ek103⟩ := hQ103
  have N103 := Fr.app N0 Nq103
  obtain ⟨T104, X104, e104, st104⟩ := getF X103 hx hZ hown (host := "") (Or.inl (wd164 hw)) Via.refl ek103 bN101 (g := (mkF mi 16 #[.val (.ref b), .val (.ref y), .val (.int (Int32.ofNat ds.length))] [(.ref b), (.ref b)])) rfl rfl (hb hby dj18_16)
  have pre105 : ∀ tt, SP pg ev below (T104.setTop (mkF mi 21 #[.val (.ref b), .val (.ref y), .val (.int (Int32.ofNat ds.length))] [(.int ((Int32.ofNat cs.length) + (Int32.ofNat ds.length))), (.ref b)])) tt → SP pg ev below (s₁.setTop (entryFrame mi #[(.ref b), (.ref y)] 3)) tt := fun tt kk => pre0 _ (by
    show SP pg ev below (s₁.setTop (mkF mi 0 #[.val (.ref b), .val (.ref y), .unset] [])) _
    refine XS.aloadN X0.here hx rfl (hb hby dj18_0) rfl rfl ?_
    refine XS.ifnonnullYes X0.here hx rfl (pc0 := 1) (pc' := 9) rfl (hb hby dj18_1) rfl (by decide) (by decide) ?_
    refine XS.aloadN X0.here hx rfl (hb hby dj18_9) rfl rfl ?_
    refine st103.trans ?_
    refine XS.istoreN X103.here hx rfl (hb hby dj18_13) rfl (l' := #[.val (.ref b), .val (.ref y), .val (.int (Int32.ofNat ds.length))]) rfl ?_
    refine XS.aloadN X103.here hx rfl (hb hby dj18_14) rfl rfl ?_
    refine XS.aloadN X103.here hx rfl (hb hby dj18_15) rfl rfl ?_
    refine st104 _ ?_
    refine XS.iloadN X104.here hx rfl (hb hby dj18_19) rfl ?_
    refine XS.iadd X104.here hx rfl (hb hby dj18_20) rfl ?_
    exact kk)
  have pre106 : ∀ tt, SP pg ev below (T104.setTop (mkF mi 21 #[.val (.ref b), .val (.ref y), .val (.int (Int32.ofNat ds.length))] [(.int (Int32.ofNat (cs.length + ds.length))), (.ref b)])) tt → SP pg ev below (s₁.setTop (entryFrame mi #[(.ref b), (.ref y)] 3)) tt := fun tt kk => pre105 tt (by rw [own_add32]; exact kk)
  obtain ⟨cq107, qq107, qq107'⟩ := bE101.cell
  obtain ⟨v107, _, ⟨T107, L107, k107, n107⟩, -, X107, ⟨Lc107, hQ107, l107, y107, z107⟩, st107⟩ := X104.privateBack hx (y := mn7) hown (mvT hZ (wd166 hw)) (mvT hZ (wd167 hw)) (own_selP (mvT (args := #[]) hZ (wd169 hw)) rfl (Cond.privateMethod_at (mvP hZ (wd168 hw) (args := #[]))) (mvT hZ (wd167 hw)) (by decide)) (Cond.privateMethod_at (mvP hZ (wd168 hw) (args := #[]))) (mvT hZ (wd170 hw)) (by decide) (backOf (W := 0) (rm_eci la Z a0 hw [] b (cs.length + ds.length) t kb101 cap cs hE n0 O bE101 bV101 bC101 bK101 (hfit : (cs.length + ds.length) ≤ cap) (bm101 : cap ≤ 120)) hZ (wd170 hw) (wd140 hw) (by decide) (by decide)) (g := (mkF mi 21 #[.val (.ref b), .val (.ref y), .val (.int (Int32.ofNat ds.length))] [(.int (Int32.ofNat (cs.length + ds.length))), (.ref b)])) rfl (by rw [hml]; rfl) (Steps.refl _) (a := b) (by rw [e104]; exact qq107) qq107' (argsL := [(.int (Int32.ofNat (cs.length + ds.length)))]) (rest := []) (lenOf pd_1 rfl) rfl (Nat.le_of_ble_eq_true rfl) (hb hby dj18_21) (fun _ _ => ⟨rfl, e104, (by decide : 0 + 0 ≤ _), (by decide : 0 + 0 ≤ _)⟩)
  dsimp only [Pt.U, Pt.locs, Pt.cells, Pt.slots] at X107 l107 y107 z107 st107 hQ107
  subst l107 y107 z107
  obtain ⟨rfl, Nq107, ek107⟩ := hQ107
  have N107 := Fr.app N103 Nq107
  obtain ⟨T108, X108, e108, st108⟩ := getF X107 hx hZ hown (host := "") (Or.inl (wd164 hw)) Via.refl ek107 bN101 (g := (mkF mi 26 #[.val (.ref b), .val (.ref y), .val (.int (Int32.ofNat ds.length))] [(.ref b), (.ref b)])) rfl rfl (hb hby dj18_26)
  obtain ⟨cq109, qq109, qq109'⟩ := bE101.cell
  obtain ⟨v109, _, ⟨T109, L109, k109, n109⟩, -, X109, ⟨Lc109, hQ109, l109, y109, z109⟩, st109⟩ := X108.privateBack hx (y := mn6) hown (mvT hZ (wd171 hw)) (mvT hZ (wd172 hw)) (own_selP (mvT (args := #[]) hZ (wd169 hw)) rfl (Cond.privateMethod_at (mvP hZ (wd173 hw) (args := #[]))) (mvT hZ (wd172 hw)) (by decide)) (Cond.privateMethod_at (mvP hZ (wd173 hw) (args := #[]))) (mvT hZ (wd175 hw)) (by decide) (backOf (W := 0) (rm_psa la Z a0 hw [] b y t u kb101 cap cs ds zc hE n0 O bE101 bV101 bC101 P1_ bK101 D0_ g_t ne_b_t (hfit : cs.length + ds.length ≤ cap) (bm101 : cap ≤ 120) (hzc : ¬ (zc = (0 : Int32)))) hZ (wd175 hw) (wd140 hw) (by decide) (by decide)) (g := (mkF mi 30 #[.val (.ref b), .val (.ref y), .val (.int (Int32.ofNat ds.length))] [(.ref y), (.int (Int32.ofNat cs.length)), (.ref b)])) rfl (by rw [hml]; rfl) (Steps.refl _) (a := b) (by rw [e108]; exact qq109) qq109' (argsL := [(.int (Int32.ofNat cs.length)), (.ref y)]) (rest := []) (lenOf pd_9 rfl) rfl (Nat.le_of_ble_eq_true rfl) (hb hby dj18_30) (fun _ _ => ⟨rfl, e108, (by decide : 0 + 0 ≤ _), (by decide : 0 + 0 ≤ _)⟩)
  dsimp only [Pt.U, Pt.locs, Pt.cells, Pt.slots] at X109 l109 y109 z109 st109 hQ109
  subst l109 y109 z109
  obtain ⟨rfl, Nq109, Kq109, r109_0⟩ := hQ109
  have N109 := Fr.app N107 Nq109
  have ne_y_t : y ≠ t := Exa.neArv sE102 bK101 (wd5 hw)
  have f110 : Fld Z T109.heap b c2_ "count" "I" (.int (Int32.ofNat cs.length)) := (bN101.keep Kq109 (ninS ne_b_t nin0))
  obtain ⟨T111, X111, e111, st111⟩ := getF X109 hx hZ hown (host := "") (Or.inl (wd164 hw)) Via.refl rfl f110 (g := (mkF mi 35 #[.val (.ref b), .val (.ref y), .val (.int (Int32.ofNat ds.length))] [(.ref b), (.ref b)])) rfl rfl (hb hby dj18_35)
  have pre112 : ∀ tt, SP pg ev below (T111.setTop (mkF mi 40 #[.val (.ref b), .val (.ref y), .val (.int (Int32.ofNat ds.length))] [(.int ((Int32.ofNat cs.length) + (Int32.ofNat ds.length))), (.ref b)])) tt → SP pg ev below (s₁.setTop (entryFrame mi #[(.ref b), (.ref y)] 3)) tt := fun tt kk => pre106 _ (by
    show SP pg ev below (T104.setTop (mkF mi 21 #[.val (.ref b), .val (.ref y), .val (.int (Int32.ofNat ds.length))] [(.int (Int32.ofNat (cs.length + ds.length))), (.ref b)])) _
    refine st107.trans ?_
    refine XS.aloadN X107.here hx rfl (hb hby dj18_24) rfl rfl ?_
    refine XS.aloadN X107.here hx rfl (hb hby dj18_25) rfl rfl ?_
    refine st108 _ ?_
    refine XS.aloadN X108.here hx rfl (hb hby dj18_29) rfl rfl ?_
    refine st109.trans ?_
    refine XS.aloadN X109.here hx rfl (hb hby dj18_33) rfl rfl ?_
    refine XS.dup X109.here hx rfl (hb hby dj18_34) rfl rfl ?_
    refine st111 _ ?_
    refine XS.iloadN X111.here hx rfl (hb hby dj18_38) rfl ?_
    refine XS.iadd X111.here hx rfl (hb hby dj18_39) rfl ?_
    exact kk)
  have pre113 : ∀ tt, SP pg ev below (T111.setTop (mkF mi 40 #[.val (.ref b), .val (.ref y), .val (.int (Int32.ofNat ds.length))] [(.int (Int32.ofNat (cs.length + ds.length))), (.ref b)])) tt → SP pg ev below (s₁.setTop (entryFrame mi #[(.ref b), (.ref y)] 3)) tt := fun tt kk => pre112 tt (by rw [own_add32]; exact kk)
  have f114 : Exa Z T109.heap b c3_ := (bE101.keep Kq109)
  obtain ⟨T115, h115, X115, e115, W115, st115⟩ := putF X111 hx hZ hown (host := "") (Or.inl (wd164 hw)) Via.refl e111 f110 f114 (Or.inl (wd165 hw)) (wd131 hw) (ty := .int) (by decide) rfl rfl (g := (mkF mi 40 #[.val (.ref b), .val (.ref y), .val (.int (Int32.ofNat ds.length))] [(.int (Int32.ofNat (cs.length + ds.length))), (.ref b)])) rfl rfl (hb hby dj18_40)
  have N115 := Fr.snoc X115 N109 g_b
  have f116 : Fld Z h115 b c2_ "count" "I" (.int (Int32.ofNat (cs.length + ds.length))) := f110.same W115
  have f118 : Exa Z h115 b c3_ := (f114.keep (Keep.of_wr W115))
  have f119 : Fld Z h115 b c2_ "value" "[B" (.ref t) := ((bV101.keep Kq109 (ninS ne_b_t nin0)).other W115 (Or.inr (slot_ne (Or.inl (wd145 hw)) (Or.inl (wd165 hw)) (by decide) (t := (.array .byte)) (t' := .int) (by decide) (by decide))))
  have f120 : Fld Z h115 b c2_ "coder" "B" (.int 0) := ((bC101.keep Kq109 (ninS ne_b_t nin0)).other W115 (Or.inr (slot_ne (Or.inl (wd147 hw)) (Or.inl (wd165 hw)) (by decide) (t := .byte) (t' := .int) (by decide) (by decide))))
  have f121 : Arv Z h115 t kb101 .byte (Int32.ofNat cap) (pads cap (cs ++ ds)) (.int 0) := (r109_0.keep (Keep.of_wr W115) (ninS (Ne.symm ne_b_t) nin0))
  have f122 : Exa Z h115 t "[B" := ((bX101.keep Kq109).keep (Keep.of_wr W115))
  have s117 : SBl Z h115 b t cap (cs ++ ds) := ⟨f118, f119, f120, (by rw [List.length_append]; exact f116), ⟨_, f121⟩, f122, own_bd_app bb101 sb102, (by rw [List.length_append]; exact hfit), bm101⟩
  obtain ⟨fs, hr, hrun, hended, hW, hsame⟩ := X115.leave (v := some (.ref b)) (fun hq => by rw [Bd.returns] at hq; cases hq)
  refine ⟨_, _, pre113 _ ?_, hrun, hended, _, _, rfl, ?_, ⟨_, rfl⟩, hW, hsame.mono (by decide) (by decide)⟩
  · show SP pg ev below (T111.setTop (mkF mi 40 #[.val (.ref b), .val (.ref y), .val (.int (Int32.ofNat ds.length))] [(.int (Int32.ofNat (cs.length + ds.length))), (.ref b)])) _
    refine st115 _ ?_
    refine XS.aloadN X115.here hx rfl (hb hby dj18_43) rfl rfl ?_
    show SP pg ev below (T115.setTop (mkF mi 44 #[.val (.ref b), .val (.ref y), .val (.int (Int32.ofNat ds.length))] [(.ref b)])) _
    jvm_step X115.here [X115.here.top, hx, (hb hby dj18_44), X115.method', Bd.returns, Value.isRef, FieldType.isReference]
    first | (intro acts; rw [hr _ acts rfl rfl rfl]) | rw [hr _ _ rfl rfl rfl]
    exact Steps.refl _
  · show Q_aap_fit Z b y t u cap cs ds zc hE n0 _ T115.heap _
    rw [e115]
    exact ⟨rfl, N115, (((Keep.refl hE [b, t]).trans Kq109 (allS (Or.inl (List.mem_of_getElem? (i := 1) rfl)) all0)).trans (Keep.of_wr W115) (allS (Or.inl (List.mem_of_getElem? (i := 0) rfl)) all0)), s117⟩
theorem dj33_0 : decode jc33 0 = .ok (.aload_n 0, 1) := by decide +kernel
theorem dj33_1 : decode jc33 1 = .ok (.aload_n 1, 1) := by decide +kernel
theorem dj33_2 : decode jc33 2 = .ok (.invokespecial 29, 3) := by decide +kernel
theorem dj33_5 : decode jc33 5 = .ok (.pop, 1) := by decide +kernel
theorem dj33_6 : decode jc33 6 = .ok (.aload_n 0, 1) := by decide +kernel
theorem dj33_7 : decode jc33 7 = .ok (.areturn, 1) := by decide +kernel
theorem pd_10 : parseMethodDescriptor "(Ljava/lang/String;)Ljava/lang/AbstractStringBuilder;" = some ⟨[(.object "java/lang/String")], some (.object "java/lang/AbstractStringBuilder")⟩ := by decide +kernel
theorem ef_sap_fit (mi : MethodId) (b : Addr) (y : Addr) : entryFrame mi #[(.ref b), (.ref y)] 2 = mkF mi 0 #[.val (.ref b), .val (.ref y)] [] := rfl
def Q_sap_fit (Z : State) (b y t u : Addr) (cap : Nat) (cs ds : List Int32) (zc : Int32) (hE : Heap) (n0 : Nat) (vv : Option Value) (hh : Heap) (LL : List Loc) : Prop := (vv = some (.ref b)) ∧ (Fr n0 LL) ∧ (Keep hE hh [b, t]) ∧ (SBl Z hh b t cap (cs ++ ds))
theorem rm_sap_fit (hw : HW a0 Z) (ws : List Cond) (b y t u : Addr) (cap : Nat) (cs ds : List Int32) (zc : Int32) (hE : Heap) (n0 : Nat) (O : Old Z n0 hE) (P0_ : SBl Z hE b t cap cs) (P1_ : LStr Z hE y u ds) (D0_ : Sta Z Z.heap c1_ c6_ "Z" (.int zc)) (g_b : n0 ≤ b) (g_t : n0 ≤ t) (ne_b_t : b ≠ t) (ne_y_b : y ≠ b) (ne_u_b : u ≠ b) (hfit : cs.length + ds.length ≤ cap) (hzc : ¬ (zc = (0 : Int32))) :
    MF la Z hE mn14 jc33 2 (some (.object c3_)) ws (rr 4 0 0 61) #[(.ref b), (.ref y)] (Q_sap_fit Z b y t u cap cs ds zc hE n0) := by
  refine MetFree.of_bodySF (plainFor_of_name pn_java_lang_StringBuilder) hisR ?_
  intro pg ev sb mi gs below me cd s₁ Bd hml0 hPt hKt
  obtain ⟨rfl, hZ, hh⟩ := hPt
  have hx := Bd.exec
  have hby := Bd.bytes
  have hml : cd.maxLocals = 2 := hml0
  have hown : sb.vm.findClass c3_ = some mi.cls := findClass_of_methodNamed Bd.named
  have X0 : Stand pg la ev (rr 4 0 0 61) sb mi #[(.ref b), (.ref y)] below me cd s₁ [] 0 0 := Stand.of_body Bd
  have eE : s₁.heap = hE := by rw [← hh, Bd.state]; rfl
  have N0 := Fr.nil n0
  have pre0 : ∀ tt, SP pg ev below (s₁.setTop (mkF mi 0 #[.val (.ref b), .val (.ref y)] [])) tt → SP pg ev below (s₁.setTop (entryFrame mi #[(.ref b), (.ref y)] 2)) tt := fun tt kk => castTop (ef_sap_fit mi b y) kk
  have f102 : Exa Z hE b c3_ := (P0_).1
  obtain ⟨v101, _, ⟨T101, L101, k101, n101⟩, -, X101, ⟨Lc101, hQ101, l101, y101, z101⟩, st101⟩ := superBack X0 hx hZ (y := mn13) hown (wd154 hw) (own_sameP (wd169 hw) rfl (wd155 hw) (by decide)) (wd155 hw) (wd156 hw) (by decide) (backOf (W := 0) (rm_aap_fit la Z a0 hw [] b y t u cap cs ds zc hE n0 O P0_ P1_ D0_ g_b g_t ne_b_t ne_y_b ne_u_b (hfit : cs.length + ds.length ≤ cap) (hzc : ¬ (zc = (0 : Int32)))) hZ (wd158 hw) (wd140 hw) (by decide) (by decide)) eE (Ins.self f102) (g := (mkF mi 2 #[.val (.ref b), .val (.ref y)] [(.ref y), (.ref b)])) rfl (by rw [hml]; rfl) (wd158 hw) (argsL := [(.ref y)]) (rest := []) (lenOf pd_10 rfl) rfl (Nat.le_of_ble_eq_true rfl) (hb hby dj33_2) (fun _ _ => ⟨rfl, eE, (by decide : 0 + 0 ≤ _), (by decide : 0 + 0 ≤ _)⟩)
  dsimp only [Pt.U, Pt.locs, Pt.cells, Pt.slots] at X101 l101 y101 z101 st101 hQ101
  subst l101 y101 z101
  obtain ⟨rfl, Nq101, Kq101, r101_0⟩ := hQ101
  have N101 := Fr.app N0 Nq101
  obtain ⟨fs, hr, hrun, hended, hW, hsame⟩ := X101.leave (v := some (.ref b)) (fun hq => by rw [Bd.returns] at hq; cases hq)
  refine ⟨_, _, pre0 _ ?_, hrun, hended, _, _, rfl, ?_, ⟨_, rfl⟩, hW, hsame.mono (by decide) (by decide)⟩
  · show SP pg ev below (s₁.setTop (mkF mi 0 #[.val (.ref b), .val (.ref y)] [])) _
    refine XS.aloadN X0.here hx rfl (hb hby dj33_0) rfl rfl ?_
    refine XS.aloadN X0.here hx rfl (hb hby dj33_1) rfl rfl ?_
    refine st101.trans ?_
    refine XS.pop X101.here hx rfl (hb hby dj33_5) rfl rfl ?_
    refine XS.aloadN X101.here hx rfl (hb hby dj33_6) rfl rfl ?_
    show SP pg ev below (T101.setTop (mkF mi 7 #[.val (.ref b), .val (.ref y)] [(.ref b)])) _
    jvm_step X101.here [X101.here.top, hx, (hb hby dj33_7), X101.method', Bd.returns, Value.isRef, FieldType.isReference]
    first | (intro acts; rw [hr _ acts rfl rfl rfl]) | rw [hr _ _ rfl rfl rfl]
    exact Steps.refl _
  · show Q_sap_fit Z b y t u cap cs ds zc hE n0 _ T101.heap _
    exact ⟨rfl, N101, ((Keep.refl hE [b, t]).trans Kq101 (allS (Or.inl (List.mem_of_getElem? (i := 0) rfl)) (allS (Or.inl (List.mem_of_getElem? (i := 1) rfl)) all0))), r101_0⟩
theorem ef_aap_grow (mi : MethodId) (b : Addr) (y : Addr) : entryFrame mi #[(.ref b), (.ref y)] 3 = mkF mi 0 #[.val (.ref b), .val (.ref y), .unset] [] := rfl
def Q_aap_grow (Z : State) (b y t u : Addr) (cap : Nat) (cs ds : List Int32) (zc : Int32) (hE : Heap) (n0 : Nat) (vv : Option Value) (hh : Heap) (LL : List Loc) : Prop := ∃ r : Addr, (vv = some (.ref b)) ∧ (Fr n0 LL) ∧ (Keep hE hh [b]) ∧ (hE.size ≤ r) ∧ (SBl Z hh b r (ncap cap (cs.length + ds.length)) (cs ++ ds))
theorem rm_aap_grow (hw : HW a0 Z) (ws : List Cond) (b y t u : Addr) (cap : Nat) (cs ds : List Int32) (zc : Int32) (hE : Heap) (n0 : Nat) (O : Old Z n0 hE) (P0_ : SBl Z hE b t cap cs) (P1_ : LStr Z hE y u ds) (D0_ : Sta Z Z.heap c1_ c6_ "Z" (.int zc)) (g_b : n0 ≤ b) (ne_b_t : b ≠ t) (ne_y_b : y ≠ b) (ne_u_b : u ≠ b) (hgt : cap < cs.length + ds.length) (hn : cs.length + ds.length ≤ 120) (hc5 : cap ≤ 50) (hzc : ¬ (zc = (0 : Int32))) :
    MF la Z hE mn13 jc18 3 (some (.object c2_)) ws (rr 4 1 120 62) #[(.ref b), (.ref y)] (Q_aap_grow Z b y t u cap cs ds zc hE n0) := by
  refine MetFree.of_bodySF (plainFor_of_name pn_java_lang_AbstractStringBuilder) hisR ?_
  intro pg ev sb mi gs below me cd s₁ Bd hml0 hPt hKt
  obtain ⟨rfl, hZ, hh⟩ := hPt
  have hx := Bd.exec
  have hby := Bd.bytes
  have hml : cd.maxLocals = 3 := hml0
  have hown : sb.vm.findClass c2_ = some mi.cls := findClass_of_methodNamed Bd.named
  have X0 : Stand pg la ev (rr 4 1 120 62) sb mi #[(.ref b), (.ref y)] below me cd s₁ [] 0 0 := Stand.of_body Bd
  have eE : s₁.heap = hE := by rw [← hh, Bd.state]; rfl
  have N0 := Fr.nil n0
  have pre0 : ∀ tt, SP pg ev below (s₁.setTop (mkF mi 0 #[.val (.ref b), .val (.ref y), .unset] [])) tt → SP pg ev below (s₁.setTop (entryFrame mi #[(.ref b), (.ref y)] 3)) tt := fun tt kk => castTop (ef_aap_grow mi b y) kk
  obtain ⟨bE101, bV101, bC101, bN101, ⟨kb101, bK101⟩, bX101, bb101, bl101, bm101⟩ := id P0_
  obtain ⟨sE102, sV102, sC102, ⟨kb102, sK102⟩, sb102, sl102⟩ := id P1_
  obtain ⟨cq103, kq103, q103a, q103b, q103c⟩ := isOf hZ eE sE102
  obtain ⟨v103, _, ⟨T103, L103, k103, n103⟩, -, X103, ⟨Lc103, hQ103, l103, y103, z103⟩, st103⟩ := X0.virtualBack hx (y := mn1) (z := mn1) hown (mvT hZ (wd159 hw)) (mvT hZ (wd160 hw)) (notFace_of_selects (args := #[]) (mvT hZ (wd162 hw))) (mvT hZ (wd162 hw)) (mvT hZ (wd161 hw)) (by decide) (backOf (W := 0) (rm_slen la Z a0 hw [] y u ds zc hE n0 O P1_ D0_ (hzc : ¬ (zc = (0 : Int32)))) hZ (wd163 hw) (wd6 hw) (by decide) (by decide)) q103a q103c (g := (mkF mi 10 #[.val (.ref b), .val (.ref y), .unset] [(.ref y)])) rfl (by rw [hml]; rfl) (Steps.refl _) (argsL := []) (rest := []) (lenOf pd_8 rfl) rfl (Nat.le_of_ble_eq_true rfl) (hb hby dj18_10) (fun _ _ => ⟨rfl, eE, (by decide : 0 + 0 ≤ _), (by decide : 0 + 0 ≤ _)⟩)
  dsimp only [Pt.U, Pt.locs, Pt.cells, Pt.slots] at X103 l103 y103 z103 st103 hQ103
  subst l103 y103 z103
  obtain ⟨rfl, Nq103, ek103⟩ := hQ103
  have N103 := Fr.app N0 Nq103
  obtain ⟨T104, X104, e104, st104⟩ := getF X103 hx hZ hown (host := "") (Or.inl (wd164 hw)) Via.refl ek103 bN101 (g := (mkF mi 16 #[.val (.ref b), .val (.ref y), .val (.int (Int32.ofNat ds.length))] [(.ref b), (.ref b)])) rfl rfl (hb hby dj18_16)
  have pre105 : ∀ tt, SP pg ev below (T104.setTop (mkF mi 21 #[.val (.ref b), .val (.ref y), .val (.int (Int32.ofNat ds.length))] [(.int ((Int32.ofNat cs.length) + (Int32.ofNat ds.length))), (.ref b)])) tt → SP pg ev below (s₁.setTop (entryFrame mi #[(.ref b), (.ref y)] 3)) tt := fun tt kk => pre0 _ (by
    show SP pg ev below (s₁.setTop (mkF mi 0 #[.val (.ref b), .val (.ref y), .unset] [])) _
    refine XS.aloadN X0.here hx rfl (hb hby dj18_0) rfl rfl ?_
    refine XS.ifnonnullYes X0.here hx rfl (pc0 := 1) (pc' := 9) rfl (hb hby dj18_1) rfl (by decide) (by decide) ?_
    refine XS.aloadN X0.here hx rfl (hb hby dj18_9) rfl rfl ?_
    refine st103.trans ?_
    refine XS.istoreN X103.here hx rfl (hb hby dj18_13) rfl (l' := #[.val (.ref b), .val (.ref y), .val (.int (Int32.ofNat ds.length))]) rfl ?_
    refine XS.aloadN X103.here hx rfl (hb hby dj18_14) rfl rfl ?_
    refine XS.aloadN X103.here hx rfl (hb hby dj18_15) rfl rfl ?_
    refine st104 _ ?_
    refine XS.iloadN X104.here hx rfl (hb hby dj18_19) rfl ?_
    refine XS.iadd X104.here hx rfl (hb hby dj18_20) rfl ?_
    exact kk)
  have pre106 : ∀ tt, SP pg ev below (T104.setTop (mkF mi 21 #[.val (.ref b), .val (.ref y), .val (.int (Int32.ofNat ds.length))] [(.int (Int32.ofNat (cs.length + ds.length))), (.ref b)])) tt → SP pg ev below (s₁.setTop (entryFrame mi #[(.ref b), (.ref y)] 3)) tt := fun tt kk => pre105 tt (by rw [own_add32]; exact kk)
  obtain ⟨cq107, qq107, qq107'⟩ := bE101.cell
  obtain ⟨v107, _, ⟨T107, L107, k107, n107⟩, -, X107, ⟨Lc107, hQ107, l107, y107, z107⟩, st107⟩ := X104.privateBack hx (y := mn7) hown (mvT hZ (wd166 hw)) (mvT hZ (wd167 hw)) (own_selP (mvT (args := #[]) hZ (wd169 hw)) rfl (Cond.privateMethod_at (mvP hZ (wd168 hw) (args := #[]))) (mvT hZ (wd167 hw)) (by decide)) (Cond.privateMethod_at (mvP hZ (wd168 hw) (args := #[]))) (mvT hZ (wd170 hw)) (by decide) (backOf (W := 0) (rm_ecg la Z a0 hw [] b (cs.length + ds.length) t kb101 cap cs (Int32.ofNat cs.length) hE n0 O bE101 bV101 bC101 bK101 bN101 g_b (Ne.symm ne_b_t) (by first | assumption | exact Nat.le_of_ble_eq_true rfl | rfl | decide | omega : cap < (cs.length + ds.length)) (by first | assumption | exact Nat.le_of_ble_eq_true rfl | rfl | decide | omega : (cs.length + ds.length) ≤ 120) (hc5 : cap ≤ 50) (bl101 : cs.length ≤ cap)) hZ (wd170 hw) (wd140 hw) (by decide) (by decide)) (g := (mkF mi 21 #[.val (.ref b), .val (.ref y), .val (.int (Int32.ofNat ds.length))] [(.int (Int32.ofNat (cs.length + ds.length))), (.ref b)])) rfl (by rw [hml]; rfl) (Steps.refl _) (a := b) (by rw [e104]; exact qq107) qq107' (argsL := [(.int (Int32.ofNat (cs.length + ds.length)))]) (rest := []) (lenOf pd_1 rfl) rfl (Nat.le_of_ble_eq_true rfl) (hb hby dj18_21) (fun _ _ => ⟨rfl, e104, (by decide : 0 + 1 ≤ _), (by decide : 0 + 120 ≤ _)⟩)
  dsimp only [Pt.U, Pt.locs, Pt.cells, Pt.slots] at X107 l107 y107 z107 st107 hQ107
  subst l107 y107 z107
  obtain ⟨r_107, kr_107, rfl, Nq107, Kq107, fr_r_107, r107_0, r107_1, r107_2, r107_3, r107_4, r107_5⟩ := hQ107
  have N107 := Fr.app N103 Nq107
  obtain ⟨T108, X108, e108, st108⟩ := getF X107 hx hZ hown (host := "") (Or.inl (wd164 hw)) Via.refl rfl r107_3 (g := (mkF mi 26 #[.val (.ref b), .val (.ref y), .val (.int (Int32.ofNat ds.length))] [(.ref b), (.ref b)])) rfl rfl (hb hby dj18_26)
  have O109 : Old Z n0 T107.heap := (O.keep Kq107 (allS g_b all0))
  have f110 : LStr Z T107.heap y u ds := (P1_.keep Kq107 (ninS ne_y_b nin0) (ninS ne_u_b nin0))
  have g_r_107 : n0 ≤ r_107 := Nat.le_trans (Nat.le_trans (Nat.le_of_eq O.1.symm) O.2.1) fr_r_107
  have ne_b_r_107 : b ≠ r_107 := Nat.ne_of_lt (Nat.lt_of_lt_of_le P0_.lt (Nat.le_trans (Nat.le_refl _) fr_r_107))
  obtain ⟨cq111, qq111, qq111'⟩ := r107_0.cell
  obtain ⟨v111, _, ⟨T111, L111, k111, n111⟩, -, X111, ⟨Lc111, hQ111, l111, y111, z111⟩, st111⟩ := X108.privateBack hx (y := mn6) hown (mvT hZ (wd171 hw)) (mvT hZ (wd172 hw)) (own_selP (mvT (args := #[]) hZ (wd169 hw)) rfl (Cond.privateMethod_at (mvP hZ (wd173 hw) (args := #[]))) (mvT hZ (wd172 hw)) (by decide)) (Cond.privateMethod_at (mvP hZ (wd173 hw) (args := #[]))) (mvT hZ (wd175 hw)) (by decide) (backOf (W := 0) (rm_psa la Z a0 hw [] b y r_107 u kr_107 (ncap cap (cs.length + ds.length)) cs ds zc T107.heap n0 O109 r107_0 r107_1 r107_2 f110 r107_4 D0_ g_r_107 ne_b_r_107 ((own_ncap hgt hn hc5).1 : cs.length + ds.length ≤ (ncap cap (cs.length + ds.length))) ((own_ncap hgt hn hc5).2.2 : (ncap cap (cs.length + ds.length)) ≤ 120) (hzc : ¬ (zc = (0 : Int32)))) hZ (wd175 hw) (wd140 hw) (by decide) (by decide)) (g := (mkF mi 30 #[.val (.ref b), .val (.ref y), .val (.int (Int32.ofNat ds.length))] [(.ref y), (.int (Int32.ofNat cs.length)), (.ref b)])) rfl (by rw [hml]; rfl) (Steps.refl _) (a := b) (by rw [e108]; exact qq111) qq111' (argsL := [(.int (Int32.ofNat cs.length)), (.ref y)]) (rest := []) (lenOf pd_9 rfl) rfl (Nat.le_of_ble_eq_true rfl) (hb hby dj18_30) (fun _ _ => ⟨rfl, e108, (by decide : 1 + 0 ≤ _), (by decide : 120 + 0 ≤ _)⟩)
  dsimp only [Pt.U, Pt.locs, Pt.cells, Pt.slots] at X111 l111 y111 z111 st111 hQ111
  subst l111 y111 z111
  obtain ⟨rfl, Nq111, Kq111, r111_0⟩ := hQ111
  have N111 := Fr.app N107 Nq111
  have f112 : Fld Z T111.heap b c2_ "count" "I" (.int (Int32.ofNat cs.length)) := (r107_3.keep Kq111 (ninS ne_b_r_107 nin0))
  obtain ⟨T113, X113, e113, st113⟩ := getF X111 hx hZ hown (host := "") (Or.inl (wd164 hw)) Via.refl rfl f112 (g := (mkF mi 35 #[.val (.ref b), .val (.ref y), .val (.int (Int32.ofNat ds.length))] [(.ref b), (.ref b)])) rfl rfl (hb hby dj18_35)
  have pre114 : ∀ tt, SP pg ev below (T113.setTop (mkF mi 40 #[.val (.ref b), .val (.ref y), .val (.int (Int32.ofNat ds.length))] [(.int ((Int32.ofNat cs.length) + (Int32.ofNat ds.length))), (.ref b)])) tt → SP pg ev below (s₁.setTop (entryFrame mi #[(.ref b), (.ref y)] 3)) tt := fun tt kk => pre106 _ (by
    show SP pg ev below (T104.setTop (mkF mi 21 #[.val (.ref b), .val (.ref y), .val (.int (Int32.ofNat ds.length))] [(.int (Int32.ofNat (cs.length + ds.length))), (.ref b)])) _
    refine st107.trans ?_
    refine XS.aloadN X107.here hx rfl (hb hby dj18_24) rfl rfl ?_
    refine XS.aloadN X107.here hx rfl (hb hby dj18_25) rfl rfl ?_
    refine st108 _ ?_
    refine XS.aloadN X108.here hx rfl (hb hby dj18_29) rfl rfl ?_
    refine st111.trans ?_
    refine XS.aloadN X111.here hx rfl (hb hby dj18_33) rfl rfl ?_
    refine XS.dup X111.here hx rfl (hb hby dj18_34) rfl rfl ?_
    refine st113 _ ?_
    refine XS.iloadN X113.here hx rfl (hb hby dj18_38) rfl ?_
    refine XS.iadd X113.here hx rfl (hb hby dj18_39) rfl ?_
    exact kk)
  have pre115 : ∀ tt, SP pg ev below (T113.setTop (mkF mi 40 #[.val (.ref b), .val (.ref y), .val (.int (Int32.ofNat ds.length))] [(.int (Int32.ofNat (cs.length + ds.length))), (.ref b)])) tt → SP pg ev below (s₁.setTop (entryFrame mi #[(.ref b), (.ref y)] 3)) tt := fun tt kk => pre114 tt (by rw [own_add32]; exact kk)
  have f116 : Exa Z T111.heap b c3_ := (r107_0.keep Kq111)
  obtain ⟨T117, h117, X117, e117, W117, st117⟩ := putF X113 hx hZ hown (host := "") (Or.inl (wd164 hw)) Via.refl e113 f112 f116 (Or.inl (wd165 hw)) (wd131 hw) (ty := .int) (by decide) rfl rfl (g := (mkF mi 40 #[.val (.ref b), .val (.ref y), .val (.int (Int32.ofNat ds.length))] [(.int (Int32.ofNat (cs.length + ds.length))), (.ref b)])) rfl rfl (hb hby dj18_40)
  have N117 := Fr.snoc X117 N111 g_b
  have f118 : Fld Z h117 b c2_ "count" "I" (.int (Int32.ofNat (cs.length + ds.length))) := f112.same W117
  have f120 : Exa Z h117 b c3_ := (f116.keep (Keep.of_wr W117))
  have f121 : Fld Z h117 b c2_ "value" "[B" (.ref r_107) := ((r107_1.keep Kq111 (ninS ne_b_r_107 nin0)).other W117 (Or.inr (slot_ne (Or.inl (wd145 hw)) (Or.inl (wd165 hw)) (by decide) (t := (.array .byte)) (t' := .int) (by decide) (by decide))))
  have f122 : Fld Z h117 b c2_ "coder" "B" (.int 0) := ((r107_2.keep Kq111 (ninS ne_b_r_107 nin0)).other W117 (Or.inr (slot_ne (Or.inl (wd147 hw)) (Or.inl (wd165 hw)) (by decide) (t := .byte) (t' := .int) (by decide) (by decide))))
  have f123 : Arv Z h117 r_107 kr_107 .byte (Int32.ofNat (ncap cap (cs.length + ds.length))) (pads (ncap cap (cs.length + ds.length)) (cs ++ ds)) (.int 0) := (r111_0.keep (Keep.of_wr W117) (ninS (Ne.symm ne_b_r_107) nin0))
  have f124 : Exa Z h117 r_107 "[B" := ((r107_5.keep Kq111).keep (Keep.of_wr W117))
  have s119 : SBl Z h117 b r_107 (ncap cap (cs.length + ds.length)) (cs ++ ds) := ⟨f120, f121, f122, (by rw [List.length_append]; exact f118), ⟨_, f123⟩, f124, own_bd_app bb101 sb102, (by rw [List.length_append]; exact (own_ncap hgt hn hc5).1), (own_ncap hgt hn hc5).2.2⟩
  obtain ⟨fs, hr, hrun, hended, hW, hsame⟩ := X117.leave (v := some (.ref b)) (fun hq => by rw [Bd.returns] at hq; cases hq)
  refine ⟨_, _, pre115 _ ?_, hrun, hended, _, _, rfl, ?_, ⟨_, rfl⟩, hW, hsame.mono (by decide) (by decide)⟩
  · show SP pg ev below (T113.setTop (mkF mi 40 #[.val (.ref b), .val (.ref y), .val (.int (Int32.ofNat ds.length))] [(.int (Int32.ofNat (cs.length + ds.length))), (.ref b)])) _
    refine st117 _ ?_
    refine XS.aloadN X117.here hx rfl (hb hby dj18_43) rfl rfl ?_
    show SP pg ev below (T117.setTop (mkF mi 44 #[.val (.ref b), .val (.ref y), .val (.int (Int32.ofNat ds.length))] [(.ref b)])) _
    jvm_step X117.here [X117.here.top, hx, (hb hby dj18_44), X117.method', Bd.returns, Value.isRef, FieldType.isReference]
    first | (intro acts; rw [hr _ acts rfl rfl rfl]) | rw [hr _ _ rfl rfl rfl]
    exact Steps.refl _
  · show Q_aap_grow Z b y t u cap cs ds zc hE n0 _ T117.heap _
    rw [e117]
    exact ⟨r_107, rfl, N117, ((((Keep.refl hE [b]).trans Kq107 (allS (Or.inl (List.mem_of_getElem? (i := 0) rfl)) all0)).trans Kq111 (allS (Or.inr fr_r_107) all0)).trans (Keep.of_wr W117) (allS (Or.inl (List.mem_of_getElem? (i := 0) rfl)) all0)), fr_r_107, s119⟩
theorem ef_sap_grow (mi : MethodId) (b : Addr) (y : Addr) : entryFrame mi #[(.ref b), (.ref y)] 2 = mkF mi 0 #[.val (.ref b), .val (.ref y)] [] := rfl
def Q_sap_grow (Z : State) (b y t u : Addr) (cap : Nat) (cs ds : List Int32) (zc : Int32) (hE : Heap) (n0 : Nat) (vv : Option Value) (hh : Heap) (LL : List Loc) : Prop := ∃ r : Addr, (vv = some (.ref b)) ∧ (Fr n0 LL) ∧ (Keep hE hh [b]) ∧ (hE.size ≤ r) ∧ (SBl Z hh b r (ncap cap (cs.length + ds.length)) (cs ++ ds))
theorem rm_sap_grow (hw : HW a0 Z) (ws : List Cond) (b y t u : Addr) (cap : Nat) (cs ds : List Int32) (zc : Int32) (hE : Heap) (n0 : Nat) (O : Old Z n0 hE) (P0_ : SBl Z hE b t cap cs) (P1_ : LStr Z hE y u ds) (D0_ : Sta Z Z.heap c1_ c6_ "Z" (.int zc)) (g_b : n0 ≤ b) (ne_b_t : b ≠ t) (ne_y_b : y ≠ b) (ne_u_b : u ≠ b) (hgt : cap < cs.length + ds.length) (hn : cs.length + ds.length ≤ 120) (hc5 : cap ≤ 50) (hzc : ¬ (zc = (0 : Int32))) :
    MF la Z hE mn14 jc33 2 (some (.object c3_)) ws (rr 5 1 120 76) #[(.ref b), (.ref y)] (Q_sap_grow Z b y t u cap cs ds zc hE n0) := by
  refine MetFree.of_bodySF (plainFor_of_name pn_java_lang_StringBuilder) hisR ?_
  intro pg ev sb mi gs below me cd s₁ Bd hml0 hPt hKt
  obtain ⟨rfl, hZ, hh⟩ := hPt
  have hx := Bd.exec
  have hby := Bd.bytes
  have hml : cd.maxLocals = 2 := hml0
  have hown : sb.vm.findClass c3_ = some mi.cls := findClass_of_methodNamed Bd.named
  have X0 : Stand pg la ev (rr 5 1 120 76) sb mi #[(.ref b), (.ref y)] below me cd s₁ [] 0 0 := Stand.of_body Bd
  have eE : s₁.heap = hE := by rw [← hh, Bd.state]; rfl
  have N0 := Fr.nil n0
  have pre0 : ∀ tt, SP pg ev below (s₁.setTop (mkF mi 0 #[.val (.ref b), .val (.ref y)] [])) tt → SP pg ev below (s₁.setTop (entryFrame mi #[(.ref b), (.ref y)] 2)) tt := fun tt kk => castTop (ef_sap_grow mi b y) kk
  have f102 : Exa Z hE b c3_ := (P0_).1
  obtain ⟨v101, _, ⟨T101, L101, k101, n101⟩, -, X101, ⟨Lc101, hQ101, l101, y101, z101⟩, st101⟩ := superBack X0 hx hZ (y := mn13) hown (wd154 hw) (own_sameP (wd169 hw) rfl (wd155 hw) (by decide)) (wd155 hw) (wd156 hw) (by decide) (backOf (W := 0) (rm_aap_grow la Z a0 hw [] b y t u cap cs ds zc hE n0 O P0_ P1_ D0_ g_b ne_b_t ne_y_b ne_u_b (hgt : cap < cs.length + ds.length) (hn : cs.length + ds.length ≤ 120) (hc5 : cap ≤ 50) (hzc : ¬ (zc = (0 : Int32)))) hZ (wd158 hw) (wd140 hw) (by decide) (by decide)) eE (Ins.self f102) (g := (mkF mi 2 #[.val (.ref b), .val (.ref y)] [(.ref y), (.ref b)])) rfl (by rw [hml]; rfl) (wd158 hw) (argsL := [(.ref y)]) (rest := []) (lenOf pd_10 rfl) rfl (Nat.le_of_ble_eq_true rfl) (hb hby dj33_2) (fun _ _ => ⟨rfl, eE, (by decide : 0 + 1 ≤ _), (by decide : 0 + 120 ≤ _)⟩)
  dsimp only [Pt.U, Pt.locs, Pt.cells, Pt.slots] at X101 l101 y101 z101 st101 hQ101
  subst l101 y101 z101
  obtain ⟨r_101, rfl, Nq101, Kq101, fr_r_101, r101_0⟩ := hQ101
  have N101 := Fr.app N0 Nq101
  obtain ⟨fs, hr, hrun, hended, hW, hsame⟩ := X101.leave (v := some (.ref b)) (fun hq => by rw [Bd.returns] at hq; cases hq)
  refine ⟨_, _, pre0 _ ?_, hrun, hended, _, _, rfl, ?_, ⟨_, rfl⟩, hW, hsame.mono (by decide) (by decide)⟩
  · show SP pg ev below (s₁.setTop (mkF mi 0 #[.val (.ref b), .val (.ref y)] [])) _
    refine XS.aloadN X0.here hx rfl (hb hby dj33_0) rfl rfl ?_
    refine XS.aloadN X0.here hx rfl (hb hby dj33_1) rfl rfl ?_
    refine st101.trans ?_
    refine XS.pop X101.here hx rfl (hb hby dj33_5) rfl rfl ?_
    refine XS.aloadN X101.here hx rfl (hb hby dj33_6) rfl rfl ?_
    show SP pg ev below (T101.setTop (mkF mi 7 #[.val (.ref b), .val (.ref y)] [(.ref b)])) _
    jvm_step X101.here [X101.here.top, hx, (hb hby dj33_7), X101.method', Bd.returns, Value.isRef, FieldType.isReference]
    first | (intro acts; rw [hr _ acts rfl rfl rfl]) | rw [hr _ _ rfl rfl rfl]
    exact Steps.refl _
  · show Q_sap_grow Z b y t u cap cs ds zc hE n0 _ T101.heap _
    exact ⟨r_101, rfl, N101, ((Keep.refl hE [b]).trans Kq101 (allS (Or.inl (List.mem_of_getElem? (i := 0) rfl)) all0)), fr_r_101, r101_0⟩
theorem dj19_0 : decode jc19 0 = .ok (.aload_n 0, 1) := by decide +kernel
theorem dj19_1 : decode jc19 1 = .ok (.getfield 15, 3) := by decide +kernel
theorem dj19_4 : decode jc19 4 = .ok (.areturn, 1) := by decide +kernel
theorem ef_agv (mi : MethodId) (b : Addr) : entryFrame mi #[(.ref b)] 1 = mkF mi 0 #[.val (.ref b)] [] := rfl
def Q_agv (Z : State) (b t : Addr) (hE : Heap) (n0 : Nat) (vv : Option Value) (hh : Heap) (LL : List Loc) : Prop := (vv = some (.ref t)) ∧ (Fr n0 LL) ∧ (hh = hE)
theorem rm_agv (hw : HW a0 Z) (ws : List Cond) (b t : Addr) (hE : Heap) (n0 : Nat) (O : Old Z n0 hE) (P0_ : Fld Z hE b c2_ "value" "[B" (.ref t)) :
    MF la Z hE mn15 jc19 1 (some (.array .byte)) ws (rr 0 0 0 0) #[(.ref b)] (Q_agv Z b t hE n0) := by
  refine MetFree.of_bodySF (plainFor_of_name pn_java_lang_AbstractStringBuilder) hisR ?_
  intro pg ev sb mi gs below me cd s₁ Bd hml0 hPt hKt
  obtain ⟨rfl, hZ, hh⟩ := hPt
  have hx := Bd.exec
  have hby := Bd.bytes
  have hml : cd.maxLocals = 1 := hml0
  have hown : sb.vm.findClass c2_ = some mi.cls := findClass_of_methodNamed Bd.named
  have X0 : Stand pg la ev (rr 0 0 0 0) sb mi #[(.ref b)] below me cd s₁ [] 0 0 := Stand.of_body Bd
  have eE : s₁.heap = hE := by rw [← hh, Bd.state]; rfl
  have N0 := Fr.nil n0
  have pre0 : ∀ tt, SP pg ev below (s₁.setTop (mkF mi 0 #[.val (.ref b)] [])) tt → SP pg ev below (s₁.setTop (entryFrame mi #[(.ref b)] 1)) tt := fun tt kk => castTop (ef_agv mi b) kk
  obtain ⟨T101, X101, e101, st101⟩ := getF X0 hx hZ hown (host := "") (Or.inl (wd144 hw)) Via.refl eE P0_ (g := (mkF mi 1 #[.val (.ref b)] [(.ref b)])) rfl rfl (hb hby dj19_1)
  obtain ⟨fs, hr, hrun, hended, hW, hsame⟩ := X101.leave (v := some (.ref t)) (fun hq => by rw [Bd.returns] at hq; cases hq)
  refine ⟨_, _, pre0 _ ?_, hrun, hended, _, _, rfl, ?_, ⟨_, rfl⟩, hW, hsame.mono (by decide) (by decide)⟩
  · show SP pg ev below (s₁.setTop (mkF mi 0 #[.val (.ref b)] [])) _
    refine XS.aloadN X0.here hx rfl (hb hby dj19_0) rfl rfl ?_
    refine st101 _ ?_
    show SP pg ev below (T101.setTop (mkF mi 4 #[.val (.ref b)] [(.ref t)])) _
    jvm_step X101.here [X101.here.top, hx, (hb hby dj19_4), X101.method', Bd.returns, Value.isRef, FieldType.isReference]
    first | (intro acts; rw [hr _ acts rfl rfl rfl]) | rw [hr _ _ rfl rfl rfl]
    exact Steps.refl _
  · show Q_agv Z b t hE n0 _ T101.heap _
    rw [e101]
    exact ⟨rfl, N0, rfl⟩
theorem dj34_0 : decode jc34 0 = .ok (.aload_n 0, 1) := by decide +kernel
theorem dj34_1 : decode jc34 1 = .ok (.getfield 79, 3) := by decide +kernel
theorem dj34_4 : decode jc34 4 = .ok (.ireturn, 1) := by decide +kernel
theorem ef_aln (mi : MethodId) (b : Addr) : entryFrame mi #[(.ref b)] 1 = mkF mi 0 #[.val (.ref b)] [] := rfl
def Q_aln (Z : State) (b : Addr) (p : Int32) (hE : Heap) (n0 : Nat) (vv : Option Value) (hh : Heap) (LL : List Loc) : Prop := (vv = some (.int p)) ∧ (Fr n0 LL) ∧ (hh = hE)
theorem rm_aln (hw : HW a0 Z) (ws : List Cond) (b : Addr) (p : Int32) (hE : Heap) (n0 : Nat) (O : Old Z n0 hE) (P0_ : Fld Z hE b c2_ "count" "I" (.int p)) :
    MF la Z hE mn16 jc34 1 (some .int) ws (rr 0 0 0 0) #[(.ref b)] (Q_aln Z b p hE n0) := by
  refine MetFree.of_bodySF (plainFor_of_name pn_java_lang_AbstractStringBuilder) hisR ?_
  intro pg ev sb mi gs below me cd s₁ Bd hml0 hPt hKt
  obtain ⟨rfl, hZ, hh⟩ := hPt
  have hx := Bd.exec
  have hby := Bd.bytes
  have hml : cd.maxLocals = 1 := hml0
  have hown : sb.vm.findClass c2_ = some mi.cls := findClass_of_methodNamed Bd.named
  have X0 : Stand pg la ev (rr 0 0 0 0) sb mi #[(.ref b)] below me cd s₁ [] 0 0 := Stand.of_body Bd
  have eE : s₁.heap = hE := by rw [← hh, Bd.state]; rfl
  have N0 := Fr.nil n0
  have pre0 : ∀ tt, SP pg ev below (s₁.setTop (mkF mi 0 #[.val (.ref b)] [])) tt → SP pg ev below (s₁.setTop (entryFrame mi #[(.ref b)] 1)) tt := fun tt kk => castTop (ef_aln mi b) kk
  obtain ⟨T101, X101, e101, st101⟩ := getF X0 hx hZ hown (host := "") (Or.inl (wd164 hw)) Via.refl eE P0_ (g := (mkF mi 1 #[.val (.ref b)] [(.ref b)])) rfl rfl (hb hby dj34_1)
  obtain ⟨fs, hr, hrun, hended, hW, hsame⟩ := X101.leave (v := some (.int p)) (fun hq => by rw [Bd.returns] at hq; cases hq)
  refine ⟨_, _, pre0 _ ?_, hrun, hended, _, _, rfl, ?_, ⟨_, rfl⟩, hW, hsame.mono (by decide) (by decide)⟩
  · show SP pg ev below (s₁.setTop (mkF mi 0 #[.val (.ref b)] [])) _
    refine XS.aloadN X0.here hx rfl (hb hby dj34_0) rfl rfl ?_
    refine st101 _ ?_
    show SP pg ev below (T101.setTop (mkF mi 4 #[.val (.ref b)] [(.int p)])) _
    exact retI X101 hx Bd.returns (hb hby dj34_4) hr
  · show Q_aln Z b p hE n0 _ T101.heap _
    rw [e101]
    exact ⟨rfl, N0, rfl⟩
theorem dj20_0 : decode jc20 0 = .ok (.aload_n 0, 1) := by decide +kernel
theorem dj20_1 : decode jc20 1 = .ok (.invokespecial 343, 3) := by decide +kernel
theorem dj20_4 : decode jc20 4 = .ok (.ireturn, 1) := by decide +kernel
theorem ef_sbl (mi : MethodId) (b : Addr) : entryFrame mi #[(.ref b)] 1 = mkF mi 0 #[.val (.ref b)] [] := rfl
def Q_sbl (Z : State) (b : Addr) (p : Int32) (hE : Heap) (n0 : Nat) (vv : Option Value) (hh : Heap) (LL : List Loc) : Prop := (vv = some (.int p)) ∧ (Fr n0 LL) ∧ (hh = hE)
theorem rm_sbl (hw : HW a0 Z) (ws : List Cond) (b : Addr) (p : Int32) (hE : Heap) (n0 : Nat) (O : Old Z n0 hE) (P0_ : Exa Z hE b c3_) (P1_ : Fld Z hE b c2_ "count" "I" (.int p)) :
    MF la Z hE mn17 jc20 1 (some .int) ws (rr 1 0 0 12) #[(.ref b)] (Q_sbl Z b p hE n0) := by
  refine MetFree.of_bodySF (plainFor_of_name pn_java_lang_StringBuilder) hisR ?_
  intro pg ev sb mi gs below me cd s₁ Bd hml0 hPt hKt
  obtain ⟨rfl, hZ, hh⟩ := hPt
  have hx := Bd.exec
  have hby := Bd.bytes
  have hml : cd.maxLocals = 1 := hml0
  have hown : sb.vm.findClass c3_ = some mi.cls := findClass_of_methodNamed Bd.named
  have X0 : Stand pg la ev (rr 1 0 0 12) sb mi #[(.ref b)] below me cd s₁ [] 0 0 := Stand.of_body Bd
  have eE : s₁.heap = hE := by rw [← hh, Bd.state]; rfl
  have N0 := Fr.nil n0
  have pre0 : ∀ tt, SP pg ev below (s₁.setTop (mkF mi 0 #[.val (.ref b)] [])) tt → SP pg ev below (s₁.setTop (entryFrame mi #[(.ref b)] 1)) tt := fun tt kk => castTop (ef_sbl mi b) kk
  obtain ⟨v101, _, ⟨T101, L101, k101, n101⟩, -, X101, ⟨Lc101, hQ101, l101, y101, z101⟩, st101⟩ := superBack X0 hx hZ (y := mn16) hown (wd219 hw) (own_sameP (wd169 hw) rfl (wd215 hw) (by decide)) (wd215 hw) (wd156 hw) (by decide) (backOf (W := 0) (rm_aln la Z a0 hw [] b p hE n0 O P1_) hZ (wd220 hw) (wd140 hw) (by decide) (by decide)) eE (Ins.self P0_) (g := (mkF mi 1 #[.val (.ref b)] [(.ref b)])) rfl (by rw [hml]; rfl) (wd220 hw) (argsL := []) (rest := []) (lenOf pd_8 rfl) rfl (Nat.le_of_ble_eq_true rfl) (hb hby dj20_1) (fun _ _ => ⟨rfl, eE, (by decide : 0 + 0 ≤ _), (by decide : 0 + 0 ≤ _)⟩)
  dsimp only [Pt.U, Pt.locs, Pt.cells, Pt.slots] at X101 l101 y101 z101 st101 hQ101
  subst l101 y101 z101
  obtain ⟨rfl, Nq101, ek101⟩ := hQ101
  have N101 := Fr.app N0 Nq101
  obtain ⟨fs, hr, hrun, hended, hW, hsame⟩ := X101.leave (v := some (.int p)) (fun hq => by rw [Bd.returns] at hq; cases hq)
  refine ⟨_, _, pre0 _ ?_, hrun, hended, _, _, rfl, ?_, ⟨_, rfl⟩, hW, hsame.mono (by decide) (by decide)⟩
  · show SP pg ev below (s₁.setTop (mkF mi 0 #[.val (.ref b)] [])) _
    refine XS.aloadN X0.here hx rfl (hb hby dj20_0) rfl rfl ?_
    refine st101.trans ?_
    show SP pg ev below (T101.setTop (mkF mi 4 #[.val (.ref b)] [(.int p)])) _
    exact retI X101 hx Bd.returns (hb hby dj20_4) hr
  · show Q_sbl Z b p hE n0 _ T101.heap _
    rw [ek101]
    exact ⟨rfl, N101, rfl⟩
theorem dj21_0 : decode jc21 0 = .ok (.getstatic 18, 3) := by decide +kernel
theorem dj21_3 : decode jc21 3 = .ok (.ifCond .eq 14, 3) := by decide +kernel
theorem dj21_6 : decode jc21 6 = .ok (.aload_n 0, 1) := by decide +kernel
theorem dj21_7 : decode jc21 7 = .ok (.getfield 22, 3) := by decide +kernel
theorem dj21_10 : decode jc21 10 = .ok (.ifCond .ne 7, 3) := by decide +kernel
theorem dj21_13 : decode jc21 13 = .ok (.iconst 1, 1) := by decide +kernel
theorem dj21_14 : decode jc21 14 = .ok (.goto 4, 3) := by decide +kernel
theorem dj21_18 : decode jc21 18 = .ok (.ireturn, 1) := by decide +kernel
theorem ef_ail1 (mi : MethodId) (b : Addr) : entryFrame mi #[(.ref b)] 1 = mkF mi 0 #[.val (.ref b)] [] := rfl
def Q_ail1 (Z : State) (b : Addr) (zc : Int32) (hE : Heap) (n0 : Nat) (vv : Option Value) (hh : Heap) (LL : List Loc) : Prop := (vv = some (.int 1)) ∧ (Fr n0 LL) ∧ (hh = hE)
theorem rm_ail1 (hw : HW a0 Z) (ws : List Cond) (b : Addr) (zc : Int32) (hE : Heap) (n0 : Nat) (O : Old Z n0 hE) (P0_ : Fld Z hE b c2_ "coder" "B" (.int 0)) (D0_ : Sta Z Z.heap c1_ c6_ "Z" (.int zc)) (hzc : ¬ (zc = (0 : Int32))) :
    MF la Z hE mn18 jc21 1 (some .boolean) ws (rr 0 0 0 0) #[(.ref b)] (Q_ail1 Z b zc hE n0) := by
  refine MetFree.of_bodySF (plainFor_of_name pn_java_lang_AbstractStringBuilder) hisR ?_
  intro pg ev sb mi gs below me cd s₁ Bd hml0 hPt hKt
  obtain ⟨rfl, hZ, hh⟩ := hPt
  have hx := Bd.exec
  have hby := Bd.bytes
  have hml : cd.maxLocals = 1 := hml0
  have hown : sb.vm.findClass c2_ = some mi.cls := findClass_of_methodNamed Bd.named
  have X0 : Stand pg la ev (rr 0 0 0 0) sb mi #[(.ref b)] below me cd s₁ [] 0 0 := Stand.of_body Bd
  have eE : s₁.heap = hE := by rw [← hh, Bd.state]; rfl
  have N0 := Fr.nil n0
  have pre0 : ∀ tt, SP pg ev below (s₁.setTop (mkF mi 0 #[.val (.ref b)] [])) tt → SP pg ev below (s₁.setTop (entryFrame mi #[(.ref b)] 1)) tt := fun tt kk => castTop (ef_ail1 mi b) kk
  obtain ⟨T101, X101, e101, st101⟩ := getS2 X0 hx hZ hown (host := "") (Or.inl (wd143 hw)) Via.refl eE (D0_.ext O.2) (g := (mkF mi 0 #[.val (.ref b)] [])) rfl (hb hby dj21_0)
  obtain ⟨T102, X102, e102, st102⟩ := getF X101 hx hZ hown (host := "") (Or.inl (wd146 hw)) Via.refl e101 P0_ (g := (mkF mi 7 #[.val (.ref b)] [(.ref b)])) rfl rfl (hb hby dj21_7)
  obtain ⟨fs, hr, hrun, hended, hW, hsame⟩ := X102.leave (v := some (.int 1)) (fun hq => by rw [Bd.returns] at hq; cases hq)
  refine ⟨_, _, pre0 _ ?_, hrun, hended, _, _, rfl, ?_, ⟨_, rfl⟩, hW, hsame.mono (by decide) (by decide)⟩
  · show SP pg ev below (s₁.setTop (mkF mi 0 #[.val (.ref b)] [])) _
    refine st101 _ ?_
    refine XS.ifNo X101.here hx rfl (hb hby dj21_3) rfl ((if0 _ _).trans (feq hzc).1) ?_
    refine XS.aloadN X101.here hx rfl (hb hby dj21_6) rfl rfl ?_
    refine st102 _ ?_
    refine XS.ifNo X102.here hx rfl (hb hby dj21_10) rfl ((if0 _ _).trans (teq (rfl : (0 : Int32) = (0 : Int32))).2) ?_
    refine XS.iconst X102.here hx rfl (hb hby dj21_13) ?_
    refine XS.goto X102.here hx rfl (pc0 := 14) (pc' := 18) rfl (hb hby dj21_14) (by decide) (by decide) ?_
    show SP pg ev below (T102.setTop (mkF mi 18 #[.val (.ref b)] [(.int 1)])) _
    exact retN X102 hx (t := .boolean) Bd.returns (by simp) (hb hby dj21_18) hr
  · show Q_ail1 Z b zc hE n0 _ T102.heap _
    rw [e102]
    exact ⟨rfl, N0, rfl⟩
theorem dj3_0 : decode jc3 0 = .ok (.iload_n 1, 1) := by decide +kernel
theorem dj3_1 : decode jc3 1 = .ok (.iload_n 0, 1) := by decide +kernel
theorem dj3_2 : decode jc3 2 = .ok (.if_icmp .ge 35, 3) := by decide +kernel
theorem dj3_37 : decode jc3 37 = .ok (.return_, 1) := by decide +kernel
theorem ef_ckl (mi : MethodId) (p : Int32) (q : Int32) : entryFrame mi #[(.int p), (.int q)] 2 = mkF mi 0 #[.val (.int p), .val (.int q)] [] := rfl
def Q_ckl (Z : State) (p q : Int32) (hE : Heap) (n0 : Nat) (vv : Option Value) (hh : Heap) (LL : List Loc) : Prop := (vv = none) ∧ (Fr n0 LL) ∧ (hh = hE)
theorem rm_ckl (hw : HW a0 Z) (ws : List Cond) (p q : Int32) (hE : Heap) (n0 : Nat) (O : Old Z n0 hE) (hpq : ¬ (q < p)) :
    MF la Z hE mn19 jc3 2 none ws (rr 0 0 0 0) #[(.int p), (.int q)] (Q_ckl Z p q hE n0) := by
  refine MetFree.of_bodySF (plainFor_of_name pn_java_util_Arrays) hisR ?_
  intro pg ev sb mi gs below me cd s₁ Bd hml0 hPt hKt
  obtain ⟨rfl, hZ, hh⟩ := hPt
  have hx := Bd.exec
  have hby := Bd.bytes
  have hml : cd.maxLocals = 2 := hml0
  have hown : sb.vm.findClass c10_ = some mi.cls := findClass_of_methodNamed Bd.named
  have X0 : Stand pg la ev (rr 0 0 0 0) sb mi #[(.int p), (.int q)] below me cd s₁ [] 0 0 := Stand.of_body Bd
  have eE : s₁.heap = hE := by rw [← hh, Bd.state]; rfl
  have N0 := Fr.nil n0
  have pre0 : ∀ tt, SP pg ev below (s₁.setTop (mkF mi 0 #[.val (.int p), .val (.int q)] [])) tt → SP pg ev below (s₁.setTop (entryFrame mi #[(.int p), (.int q)] 2)) tt := fun tt kk => castTop (ef_ckl mi p q) kk
  obtain ⟨fs, hr, hrun, hended, hW, hsame⟩ := X0.leave (v := none) (fun _ => rfl)
  refine ⟨_, _, pre0 _ ?_, hrun, hended, _, _, rfl, ?_, ⟨_, rfl⟩, hW, hsame.mono (by decide) (by decide)⟩
  · show SP pg ev below (s₁.setTop (mkF mi 0 #[.val (.int p), .val (.int q)] [])) _
    refine XS.iloadN X0.here hx rfl (hb hby dj3_0) rfl ?_
    refine XS.iloadN X0.here hx rfl (hb hby dj3_1) rfl ?_
    refine XS.icmpYes X0.here hx rfl (pc0 := 2) (pc' := 37) rfl (hb hby dj3_2) rfl (flt hpq).2.1 (by decide) (by decide) ?_
    show SP pg ev below (s₁.setTop (mkF mi 37 #[.val (.int p), .val (.int q)] [])) _
    exact X0.returnOut hx Bd.returns (hb hby dj3_37) hr
  · show Q_ckl Z p q hE n0 _ s₁.heap _
    rw [eE]
    exact ⟨rfl, N0, rfl⟩
theorem dj4_0 : decode jc4 0 = .ok (.iload_n 1, 1) := by decide +kernel
theorem dj4_1 : decode jc4 1 = .ok (.iload_n 2, 1) := by decide +kernel
theorem dj4_2 : decode jc4 2 = .ok (.invokestatic 343, 3) := by decide +kernel
theorem dj4_5 : decode jc4 5 = .ok (.iload_n 2, 1) := by decide +kernel
theorem dj4_6 : decode jc4 6 = .ok (.iload_n 1, 1) := by decide +kernel
theorem dj4_7 : decode jc4 7 = .ok (.isub, 1) := by decide +kernel
theorem dj4_8 : decode jc4 8 = .ok (.istore_n 3, 1) := by decide +kernel
theorem dj4_9 : decode jc4 9 = .ok (.iload_n 3, 1) := by decide +kernel
theorem dj4_10 : decode jc4 10 = .ok (.newarray .byte, 2) := by decide +kernel
theorem dj4_12 : decode jc4 12 = .ok (.astore 4, 2) := by decide +kernel
theorem dj4_14 : decode jc4 14 = .ok (.aload_n 0, 1) := by decide +kernel
theorem dj4_15 : decode jc4 15 = .ok (.iload_n 1, 1) := by decide +kernel
theorem dj4_16 : decode jc4 16 = .ok (.aload 4, 2) := by decide +kernel
theorem dj4_18 : decode jc4 18 = .ok (.iconst 0, 1) := by decide +kernel
theorem dj4_19 : decode jc4 19 = .ok (.aload_n 0, 1) := by decide +kernel
theorem dj4_20 : decode jc4 20 = .ok (.arraylength, 1) := by decide +kernel
theorem dj4_21 : decode jc4 21 = .ok (.iload_n 1, 1) := by decide +kernel
theorem dj4_22 : decode jc4 22 = .ok (.isub, 1) := by decide +kernel
theorem dj4_23 : decode jc4 23 = .ok (.iload_n 3, 1) := by decide +kernel
theorem dj4_24 : decode jc4 24 = .ok (.invokestatic 304, 3) := by decide +kernel
theorem dj4_27 : decode jc4 27 = .ok (.invokestatic 150, 3) := by decide +kernel
theorem dj4_30 : decode jc4 30 = .ok (.aload 4, 2) := by decide +kernel
theorem dj4_32 : decode jc4 32 = .ok (.areturn, 1) := by decide +kernel
theorem pd_11 : parseMethodDescriptor "(II)V" = some ⟨[.int, .int], none⟩ := by decide +kernel
theorem ef_crb (mi : MethodId) (t : Addr) (cs : List Int32) : entryFrame mi #[(.ref t), (.int 0), (.int (Int32.ofNat cs.length))] 5 = mkF mi 0 #[.val (.ref t), .val (.int 0), .val (.int (Int32.ofNat cs.length)), .unset, .unset] [] := rfl
def Q_crb (Z : State) (t : Addr) (kb : ClassId) (cap : Nat) (cs : List Int32) (hE : Heap) (n0 : Nat) (vv : Option Value) (hh : Heap) (LL : List Loc) : Prop := ∃ r : Addr, ∃ kr : ClassId, (vv = some (.ref r)) ∧ (Fr n0 LL) ∧ (Keep hE hh []) ∧ (hE.size ≤ r) ∧ (Arv Z hh r kr .byte (Int32.ofNat cs.length) (bys cs) (.int 0))
theorem rm_crb (hw : HW a0 Z) (ws : List Cond) (t : Addr) (kb : ClassId) (cap : Nat) (cs : List Int32) (hE : Heap) (n0 : Nat) (O : Old Z n0 hE) (P0_ : Arv Z hE t kb .byte (Int32.ofNat cap) (pads cap cs) (.int 0)) (hlc : cs.length < cap) (hcap : cap ≤ 120) :
    MF la Z hE mn20 jc4 5 (some (.array .byte)) ws (rr 1 1 120 18) #[(.ref t), (.int 0), (.int (Int32.ofNat cs.length))] (Q_crb Z t kb cap cs hE n0) := by
  refine MetFree.of_bodySF (plainFor_of_name pn_java_util_Arrays) hisR ?_
  intro pg ev sb mi gs below me cd s₁ Bd hml0 hPt hKt
  obtain ⟨rfl, hZ, hh⟩ := hPt
  have hx := Bd.exec
  have hby := Bd.bytes
  have hml : cd.maxLocals = 5 := hml0
  have hown : sb.vm.findClass c10_ = some mi.cls := findClass_of_methodNamed Bd.named
  have X0 : Stand pg la ev (rr 1 1 120 18) sb mi #[(.ref t), (.int 0), (.int (Int32.ofNat cs.length))] below me cd s₁ [] 0 0 := Stand.of_body Bd
  have eE : s₁.heap = hE := by rw [← hh, Bd.state]; rfl
  have N0 := Fr.nil n0
  have pre0 : ∀ tt, SP pg ev below (s₁.setTop (mkF mi 0 #[.val (.ref t), .val (.int 0), .val (.int (Int32.ofNat cs.length)), .unset, .unset] [])) tt → SP pg ev below (s₁.setTop (entryFrame mi #[(.ref t), (.int 0), (.int (Int32.ofNat cs.length))] 5)) tt := fun tt kk => castTop (ef_crb mi t cs) kk
  obtain ⟨v101, _, ⟨T101, L101, k101, n101⟩, -, X101, ⟨Lc101, hQ101, l101, y101, z101⟩, st101⟩ := Jvm.LawKit.callS X0 hx (y := mn19) hown (mvT hZ (wd233 hw)) (mvT hZ (wd234 hw)) (mvT hZ (wd228 hw)) (mvT hZ (wd235 hw)) (by decide) (backOf (W := 0) (rm_ckl la Z a0 hw [] (0 : Int32) (Int32.ofNat cs.length) hE n0 O (own_len_nn (by omega) : ¬ ((Int32.ofNat cs.length) < (0 : Int32)))) hZ (wd235 hw) (wd228 hw) (by decide) (by decide)) (g := (mkF mi 2 #[.val (.ref t), .val (.int 0), .val (.int (Int32.ofNat cs.length)), .unset, .unset] [(.int (Int32.ofNat cs.length)), (.int 0)])) rfl (by rw [hml]; rfl) (argsL := [(.int 0), (.int (Int32.ofNat cs.length))]) (rest := []) (lenOf pd_11 rfl) rfl (Nat.le_of_ble_eq_true rfl) (hb hby dj4_2) (fun _ _ => ⟨rfl, eE, (by decide : 0 + 0 ≤ _), (by decide : 0 + 0 ≤ _)⟩)
  dsimp only [Pt.U, Pt.locs, Pt.cells, Pt.slots] at X101 l101 y101 z101 st101 hQ101
  subst l101 y101 z101
  obtain ⟨rfl, Nq101, ek101⟩ := hQ101
  have N101 := Fr.app N0 Nq101
  have pre102 : ∀ tt, SP pg ev below (T101.setTop (mkF mi 8 #[.val (.ref t), .val (.int 0), .val (.int (Int32.ofNat cs.length)), .unset, .unset] [(.int ((Int32.ofNat cs.length) - (0 : Int32)))])) tt → SP pg ev below (s₁.setTop (entryFrame mi #[(.ref t), (.int 0), (.int (Int32.ofNat cs.length))] 5)) tt := fun tt kk => pre0 _ (by
    show SP pg ev below (s₁.setTop (mkF mi 0 #[.val (.ref t), .val (.int 0), .val (.int (Int32.ofNat cs.length)), .unset, .unset] [])) _
    refine XS.iloadN X0.here hx rfl (hb hby dj4_0) rfl ?_
    refine XS.iloadN X0.here hx rfl (hb hby dj4_1) rfl ?_
    refine st101 _ ?_
    refine XS.iloadN X101.here hx rfl (hb hby dj4_5) rfl ?_
    refine XS.iloadN X101.here hx rfl (hb hby dj4_6) rfl ?_
    refine XS.isub X101.here hx rfl (hb hby dj4_7) rfl ?_
    exact kk)
  have pre103 : ∀ tt, SP pg ev below (T101.setTop (mkF mi 8 #[.val (.ref t), .val (.int 0), .val (.int (Int32.ofNat cs.length)), .unset, .unset] [(.int (Int32.ofNat cs.length))])) tt → SP pg ev below (s₁.setTop (entryFrame mi #[(.ref t), (.int 0), (.int (Int32.ofNat cs.length))] 5)) tt := fun tt kk => pre102 tt (by rw [Int32.sub_zero]; exact kk)
  obtain ⟨T104, h104, k104, X104, e104, E104, A104, st104⟩ := newP (aty := .byte) X101 hx hZ (wd23 hw) ek101 (g := (mkF mi 10 #[.val (.ref t), .val (.int 0), .val (.int (Int32.ofNat cs.length)), .val (.int (Int32.ofNat cs.length)), .unset] [(.int (Int32.ofNat cs.length))])) rfl (hb hby dj4_10) rfl (own_len_nn (by omega)) (cap := 120) (by rw [own_n32 (by omega)]; omega) (by decide) (by decide) (by decide)
  obtain ⟨b104, q104⟩ : ∃ z, z = hE.size := ⟨_, rfl⟩
  rw [← q104] at A104 st104
  have f105 : Arv Z h104 b104 k104 .byte (Int32.ofNat cs.length) ([] ++ List.replicate (cs.length) (.int 0)) (.int 0) := (Arv.new A104 (own_len_nn (by omega))).pad (pad_rep [] (.int 0) (cs.length))
  have f106 : Arv Z h104 t kb .byte (Int32.ofNat cap) (pads cap cs) (.int 0) := (P0_.ext E104)
  obtain ⟨cl107, Ar107, -, Sz107, Nn107, -, -⟩ := id f106
  have pre108 : ∀ tt, SP pg ev below (T104.setTop (mkF mi 23 #[.val (.ref t), .val (.int 0), .val (.int (Int32.ofNat cs.length)), .val (.int (Int32.ofNat cs.length)), .val (.ref b104)] [(.int ((Int32.ofNat cap) - (0 : Int32))), (.int 0), (.ref b104), (.int 0), (.ref t)])) tt → SP pg ev below (s₁.setTop (entryFrame mi #[(.ref t), (.int 0), (.int (Int32.ofNat cs.length))] 5)) tt := fun tt kk => pre103 _ (by
    show SP pg ev below (T101.setTop (mkF mi 8 #[.val (.ref t), .val (.int 0), .val (.int (Int32.ofNat cs.length)), .unset, .unset] [(.int (Int32.ofNat cs.length))])) _
    refine XS.istoreN X101.here hx rfl (hb hby dj4_8) rfl (l' := #[.val (.ref t), .val (.int 0), .val (.int (Int32.ofNat cs.length)), .val (.int (Int32.ofNat cs.length)), .unset]) rfl ?_
    refine XS.iloadN X101.here hx rfl (hb hby dj4_9) rfl ?_
    refine st104 _ ?_
    refine XS.astore X104.here hx rfl (hb hby dj4_12) rfl rfl (l' := #[.val (.ref t), .val (.int 0), .val (.int (Int32.ofNat cs.length)), .val (.int (Int32.ofNat cs.length)), .val (.ref b104)]) rfl ?_
    refine XS.aloadN X104.here hx rfl (hb hby dj4_14) rfl rfl ?_
    refine XS.iloadN X104.here hx rfl (hb hby dj4_15) rfl ?_
    refine XS.aload X104.here hx rfl (hb hby dj4_16) rfl rfl ?_
    refine XS.iconst X104.here hx rfl (hb hby dj4_18) ?_
    refine XS.aloadN X104.here hx rfl (hb hby dj4_19) rfl rfl ?_
    refine X104.arraylength hx (cell := cl107) (by rw [e104]; exact Ar107.1) (State.isArrayOf_alike hZ.alike Ar107.2.1) (g := (mkF mi 20 #[.val (.ref t), .val (.int 0), .val (.int (Int32.ofNat cs.length)), .val (.int (Int32.ofNat cs.length)), .val (.ref b104)] [(.ref t), (.int 0), (.ref b104), (.int 0), (.ref t)])) rfl (rest := [(.int 0), (.ref b104), (.int 0), (.ref t)]) rfl (hb hby dj4_20) _ ?_
    rw [len_of Sz107 Nn107]
    refine XS.iloadN X104.here hx rfl (hb hby dj4_21) rfl ?_
    refine XS.isub X104.here hx rfl (hb hby dj4_22) rfl ?_
    exact kk)
  have pre109 : ∀ tt, SP pg ev below (T104.setTop (mkF mi 23 #[.val (.ref t), .val (.int 0), .val (.int (Int32.ofNat cs.length)), .val (.int (Int32.ofNat cs.length)), .val (.ref b104)] [(.int (Int32.ofNat cap)), (.int 0), (.ref b104), (.int 0), (.ref t)])) tt → SP pg ev below (s₁.setTop (entryFrame mi #[(.ref t), (.int 0), (.int (Int32.ofNat cs.length))] 5)) tt := fun tt kk => pre108 tt (by rw [Int32.sub_zero]; exact kk)
  have O110 : Old Z n0 h104 := (O.ext E104)
  obtain ⟨v111, _, ⟨T111, L111, k111, n111⟩, -, X111, ⟨Lc111, hQ111, l111, y111, z111⟩, st111⟩ := Jvm.LawKit.callS X104 hx (y := mn11) hown (mvT hZ (wd236 hw)) (mvT hZ (wd237 hw)) (mvT hZ (wd238 hw)) (mvT hZ (wd239 hw)) (by decide) (backOf (W := 4) (rm_mmin la Z a0 hw [] (Int32.ofNat cap) (Int32.ofNat cs.length) h104 n0 O110) hZ (wd239 hw) (wd238 hw) (by decide) (by decide)) (g := (mkF mi 24 #[.val (.ref t), .val (.int 0), .val (.int (Int32.ofNat cs.length)), .val (.int (Int32.ofNat cs.length)), .val (.ref b104)] [(.int (Int32.ofNat cs.length)), (.int (Int32.ofNat cap)), (.int 0), (.ref b104), (.int 0), (.ref t)])) rfl (by rw [hml]; rfl) (argsL := [(.int (Int32.ofNat cap)), (.int (Int32.ofNat cs.length))]) (rest := [(.int 0), (.ref b104), (.int 0), (.ref t)]) (lenOf pd_4 rfl) rfl (Nat.le_of_ble_eq_true rfl) (hb hby dj4_24) (fun _ _ => ⟨rfl, e104, (by decide : 1 + 0 ≤ _), (by decide : 120 + 0 ≤ _)⟩)
  dsimp only [Pt.U, Pt.locs, Pt.cells, Pt.slots] at X111 l111 y111 z111 st111 hQ111
  subst l111 y111 z111
  obtain ⟨rfl, Nq111, ek111⟩ := hQ111
  have N111 := Fr.app N101 Nq111
  have pre112 : ∀ tt, SP pg ev below (T111.setTop (mkF mi 27 #[.val (.ref t), .val (.int 0), .val (.int (Int32.ofNat cs.length)), .val (.int (Int32.ofNat cs.length)), .val (.ref b104)] [(.int (if (Int32.ofNat cs.length) < (Int32.ofNat cap) then (Int32.ofNat cs.length) else (Int32.ofNat cap))), (.int 0), (.ref b104), (.int 0), (.ref t)])) tt → SP pg ev below (s₁.setTop (entryFrame mi #[(.ref t), (.int 0), (.int (Int32.ofNat cs.length))] 5)) tt := fun tt kk => pre109 _ (by
    show SP pg ev below (T104.setTop (mkF mi 23 #[.val (.ref t), .val (.int 0), .val (.int (Int32.ofNat cs.length)), .val (.int (Int32.ofNat cs.length)), .val (.ref b104)] [(.int (Int32.ofNat cap)), (.int 0), (.ref b104), (.int 0), (.ref t)])) _
    refine XS.iloadN X104.here hx rfl (hb hby dj4_23) rfl ?_
    refine st111 _ ?_
    exact kk)
  have pre113 : ∀ tt, SP pg ev below (T111.setTop (mkF mi 27 #[.val (.ref t), .val (.int 0), .val (.int (Int32.ofNat cs.length)), .val (.int (Int32.ofNat cs.length)), .val (.ref b104)] [(.int (Int32.ofNat cs.length)), (.int 0), (.ref b104), (.int 0), (.ref t)])) tt → SP pg ev below (s₁.setTop (entryFrame mi #[(.ref t), (.int 0), (.int (Int32.ofNat cs.length))] 5)) tt := fun tt kk => pre112 tt (by rw [if_pos ((own_lt32 (by omega) (by omega)).mpr hlc)]; exact kk)
  have g_b104 : n0 ≤ b104 := Nat.le_trans (Nat.le_trans (Nat.le_of_eq O.1.symm) O.2.1) (Nat.le_of_eq q104.symm)
  obtain ⟨T114, h114, L114, X114, e114, N114, Kq114, V114, st114⟩ := cpA X111 hx hZ hown (wd240 hw) (wd190 hw) (wd188 hw) (wd189 hw) ek111 (us := ((pads cap cs).take cs.length)) f106 f105 (Or.inl ⟨rfl, rfl⟩) (by decide) (by decide) (own_len_nn (by omega)) (by rw [own_n32 (n := cs.length) (by omega), own_n32 (n := cap) (by omega)]; show 0 + cs.length ≤ cap; omega) (by rw [own_n32 (n := cs.length) (by omega)]; exact Nat.le_of_eq (Nat.zero_add _)) (by rw [own_n32 (n := cs.length) (by omega)]; exact own_us_take (by rw [own_pads_len (by omega)]; omega)) (by rw [own_n32 (n := cs.length) (by omega)]; simp) N111 g_b104 (g := (mkF mi 27 #[.val (.ref t), .val (.int 0), .val (.int (Int32.ofNat cs.length)), .val (.int (Int32.ofNat cs.length)), .val (.ref b104)] [(.int (Int32.ofNat cs.length)), (.int 0), (.ref b104), (.int 0), (.ref t)])) rfl (by rw [hml]; rfl) (rest := []) rfl (hb hby dj4_27) (by decide) (W := 0) (Nat.le_of_ble_eq_true rfl) (by decide)
  have f115 : Arv Z h114 b104 k104 .byte (Int32.ofNat cs.length) (bys cs) (.int 0) := by have hq := V114; rw [own_n32 (n := cs.length) (by omega), show (0 : Int32).toNatClampNeg = 0 from rfl, own_pads_cut (by omega)] at hq; exact hq
  obtain ⟨fs, hr, hrun, hended, hW, hsame⟩ := X114.leave (v := some (.ref b104)) (fun hq => by rw [Bd.returns] at hq; cases hq)
  refine ⟨_, _, pre113 _ ?_, hrun, hended, _, _, rfl, ?_, ⟨_, rfl⟩, hW, hsame.mono (by decide) (by decide)⟩
  · show SP pg ev below (T111.setTop (mkF mi 27 #[.val (.ref t), .val (.int 0), .val (.int (Int32.ofNat cs.length)), .val (.int (Int32.ofNat cs.length)), .val (.ref b104)] [(.int (Int32.ofNat cs.length)), (.int 0), (.ref b104), (.int 0), (.ref t)])) _
    refine st114 _ ?_
    refine XS.aload X114.here hx rfl (hb hby dj4_30) rfl rfl ?_
    show SP pg ev below (T114.setTop (mkF mi 32 #[.val (.ref t), .val (.int 0), .val (.int (Int32.ofNat cs.length)), .val (.int (Int32.ofNat cs.length)), .val (.ref b104)] [(.ref b104)])) _
    jvm_step X114.here [X114.here.top, hx, (hb hby dj4_32), X114.method', Bd.returns, Value.isRef, FieldType.isReference]
    first | (intro acts; rw [hr _ acts rfl rfl rfl]) | rw [hr _ _ rfl rfl rfl]
    exact Steps.refl _
  · show Q_crb Z t kb cap cs hE n0 _ T114.heap _
    rw [e114]
    exact ⟨b104, k104, rfl, N114, (((Keep.refl hE []).ext E104).trans Kq114 (allS (Or.inr (Nat.le_of_eq q104.symm)) all0)), (Nat.le_of_eq q104.symm), f115⟩
theorem dj5_0 : decode jc5 0 = .ok (.iload_n 1, 1) := by decide +kernel
theorem dj5_1 : decode jc5 1 = .ok (.ifCond .ne 9, 3) := by decide +kernel
theorem dj5_4 : decode jc5 4 = .ok (.iload_n 2, 1) := by decide +kernel
theorem dj5_5 : decode jc5 5 = .ok (.aload_n 0, 1) := by decide +kernel
theorem dj5_6 : decode jc5 6 = .ok (.arraylength, 1) := by decide +kernel
theorem dj5_7 : decode jc5 7 = .ok (.if_icmp .eq 10, 3) := by decide +kernel
theorem dj5_10 : decode jc5 10 = .ok (.aload_n 0, 1) := by decide +kernel
theorem dj5_11 : decode jc5 11 = .ok (.iload_n 1, 1) := by decide +kernel
theorem dj5_12 : decode jc5 12 = .ok (.iload_n 2, 1) := by decide +kernel
theorem dj5_13 : decode jc5 13 = .ok (.invokestatic 339, 3) := by decide +kernel
theorem dj5_16 : decode jc5 16 = .ok (.areturn, 1) := by decide +kernel
theorem pd_12 : parseMethodDescriptor "([BII)[B" = some ⟨[(.array .byte), .int, .int], some (.array .byte)⟩ := by decide +kernel
theorem ef_crc (mi : MethodId) (t : Addr) (cs : List Int32) : entryFrame mi #[(.ref t), (.int 0), (.int (Int32.ofNat cs.length))] 3 = mkF mi 0 #[.val (.ref t), .val (.int 0), .val (.int (Int32.ofNat cs.length))] [] := rfl
def Q_crc (Z : State) (t : Addr) (kb : ClassId) (cap : Nat) (cs : List Int32) (hE : Heap) (n0 : Nat) (vv : Option Value) (hh : Heap) (LL : List Loc) : Prop := ∃ r : Addr, ∃ kr : ClassId, (vv = some (.ref r)) ∧ (Fr n0 LL) ∧ (Keep hE hh []) ∧ (hE.size ≤ r) ∧ (Arv Z hh r kr .byte (Int32.ofNat cs.length) (bys cs) (.int 0))
theorem rm_crc (hw : HW a0 Z) (ws : List Cond) (t : Addr) (kb : ClassId) (cap : Nat) (cs : List Int32) (hE : Heap) (n0 : Nat) (O : Old Z n0 hE) (P0_ : Arv Z hE t kb .byte (Int32.ofNat cap) (pads cap cs) (.int 0)) (hlc : cs.length < cap) (hcap : cap ≤ 120) :
    MF la Z hE mn21 jc5 3 (some (.array .byte)) ws (rr 2 1 120 34) #[(.ref t), (.int 0), (.int (Int32.ofNat cs.length))] (Q_crc Z t kb cap cs hE n0) := by
  refine MetFree.of_bodySF (plainFor_of_name pn_java_util_Arrays) hisR ?_
  intro pg ev sb mi gs below me cd s₁ Bd hml0 hPt hKt
  obtain ⟨rfl, hZ, hh⟩ := hPt
  have hx := Bd.exec
  have hby := Bd.bytes
  have hml : cd.maxLocals = 3 := hml0
  have hown : sb.vm.findClass c10_ = some mi.cls := findClass_of_methodNamed Bd.named
  have X0 : Stand pg la ev (rr 2 1 120 34) sb mi #[(.ref t), (.int 0), (.int (Int32.ofNat cs.length))] below me cd s₁ [] 0 0 := Stand.of_body Bd
  have eE : s₁.heap = hE := by rw [← hh, Bd.state]; rfl
  have N0 := Fr.nil n0
  have pre0 : ∀ tt, SP pg ev below (s₁.setTop (mkF mi 0 #[.val (.ref t), .val (.int 0), .val (.int (Int32.ofNat cs.length))] [])) tt → SP pg ev below (s₁.setTop (entryFrame mi #[(.ref t), (.int 0), (.int (Int32.ofNat cs.length))] 3)) tt := fun tt kk => castTop (ef_crc mi t cs) kk
  obtain ⟨cl101, Ar101, -, Sz101, Nn101, -, -⟩ := id P0_
  obtain ⟨v102, _, ⟨T102, L102, k102, n102⟩, -, X102, ⟨Lc102, hQ102, l102, y102, z102⟩, st102⟩ := Jvm.LawKit.callS X0 hx (y := mn20) hown (mvT hZ (wd230 hw)) (mvT hZ (wd231 hw)) (mvT hZ (wd228 hw)) (mvT hZ (wd232 hw)) (by decide) (backOf (W := 0) (rm_crb la Z a0 hw [] t kb cap cs hE n0 O P0_ (hlc : cs.length < cap) (hcap : cap ≤ 120)) hZ (wd232 hw) (wd228 hw) (by decide) (by decide)) (g := (mkF mi 13 #[.val (.ref t), .val (.int 0), .val (.int (Int32.ofNat cs.length))] [(.int (Int32.ofNat cs.length)), (.int 0), (.ref t)])) rfl (by rw [hml]; rfl) (argsL := [(.ref t), (.int 0), (.int (Int32.ofNat cs.length))]) (rest := []) (lenOf pd_12 rfl) rfl (Nat.le_of_ble_eq_true rfl) (hb hby dj5_13) (fun _ _ => ⟨rfl, eE, (by decide : 0 + 1 ≤ _), (by decide : 0 + 120 ≤ _)⟩)
  dsimp only [Pt.U, Pt.locs, Pt.cells, Pt.slots] at X102 l102 y102 z102 st102 hQ102
  subst l102 y102 z102
  obtain ⟨r_102, kr_102, rfl, Nq102, Kq102, fr_r_102, r102_0⟩ := hQ102
  have N102 := Fr.app N0 Nq102
  obtain ⟨fs, hr, hrun, hended, hW, hsame⟩ := X102.leave (v := some (.ref r_102)) (fun hq => by rw [Bd.returns] at hq; cases hq)
  refine ⟨_, _, pre0 _ ?_, hrun, hended, _, _, rfl, ?_, ⟨_, rfl⟩, hW, hsame.mono (by decide) (by decide)⟩
  · show SP pg ev below (s₁.setTop (mkF mi 0 #[.val (.ref t), .val (.int 0), .val (.int (Int32.ofNat cs.length))] [])) _
    refine XS.iloadN X0.here hx rfl (hb hby dj5_0) rfl ?_
    refine XS.ifNo X0.here hx rfl (hb hby dj5_1) rfl ((if0 _ _).trans (teq (rfl : (0 : Int32) = (0 : Int32))).2) ?_
    refine XS.iloadN X0.here hx rfl (hb hby dj5_4) rfl ?_
    refine XS.aloadN X0.here hx rfl (hb hby dj5_5) rfl rfl ?_
    refine X0.arraylength hx (cell := cl101) (by rw [eE]; exact Ar101.1) (State.isArrayOf_alike hZ.alike Ar101.2.1) (g := (mkF mi 6 #[.val (.ref t), .val (.int 0), .val (.int (Int32.ofNat cs.length))] [(.ref t), (.int (Int32.ofNat cs.length))])) rfl (rest := [(.int (Int32.ofNat cs.length))]) rfl (hb hby dj5_6) _ ?_
    rw [len_of Sz101 Nn101]
    refine XS.icmpNo X0.here hx rfl (hb hby dj5_7) rfl (feq (fun q => absurd ((own_eq32 (by omega) (by omega)).mp q) (by omega))).1 ?_
    refine XS.aloadN X0.here hx rfl (hb hby dj5_10) rfl rfl ?_
    refine XS.iloadN X0.here hx rfl (hb hby dj5_11) rfl ?_
    refine XS.iloadN X0.here hx rfl (hb hby dj5_12) rfl ?_
    refine st102 _ ?_
    show SP pg ev below (T102.setTop (mkF mi 16 #[.val (.ref t), .val (.int 0), .val (.int (Int32.ofNat cs.length))] [(.ref r_102)])) _
    jvm_step X102.here [X102.here.top, hx, (hb hby dj5_16), X102.method', Bd.returns, Value.isRef, FieldType.isReference]
    first | (intro acts; rw [hr _ acts rfl rfl rfl]) | rw [hr _ _ rfl rfl rfl]
    exact Steps.refl _
  · show Q_crc Z t kb cap cs hE n0 _ T102.heap _
    exact ⟨r_102, kr_102, rfl, N102, ((Keep.refl hE []).trans Kq102 all0), fr_r_102, r102_0⟩
theorem dj5_17 : decode jc5 17 = .ok (.aload_n 0, 1) := by decide +kernel
theorem dj5_18 : decode jc5 18 = .ok (.invokevirtual 310, 3) := by decide +kernel
theorem dj5_21 : decode jc5 21 = .ok (.checkcast 311, 3) := by decide +kernel
theorem dj5_24 : decode jc5 24 = .ok (.areturn, 1) := by decide +kernel
theorem ef_crf (mi : MethodId) (t : Addr) (cs : List Int32) : entryFrame mi #[(.ref t), (.int 0), (.int (Int32.ofNat cs.length))] 3 = mkF mi 0 #[.val (.ref t), .val (.int 0), .val (.int (Int32.ofNat cs.length))] [] := rfl
def Q_crf (Z : State) (t : Addr) (kb : ClassId) (cap : Nat) (cs : List Int32) (hE : Heap) (n0 : Nat) (vv : Option Value) (hh : Heap) (LL : List Loc) : Prop := ∃ r : Addr, ∃ kr : ClassId, (vv = some (.ref r)) ∧ (Fr n0 LL) ∧ (Keep hE hh []) ∧ (hE.size ≤ r) ∧ (Arv Z hh r kr .byte (Int32.ofNat cs.length) (bys cs) (.int 0))
theorem rm_crf (hw : HW a0 Z) (ws : List Cond) (t : Addr) (kb : ClassId) (cap : Nat) (cs : List Int32) (hE : Heap) (n0 : Nat) (O : Old Z n0 hE) (P0_ : Arv Z hE t kb .byte (Int32.ofNat cap) (pads cap cs) (.int 0)) (P1_ : Exa Z hE t "[B") (hlc : cs.length = cap) (hcap : cap ≤ 120) :
    MF la Z hE mn21 jc5 3 (some (.array .byte)) ws (rr 1 1 120 14) #[(.ref t), (.int 0), (.int (Int32.ofNat cs.length))] (Q_crf Z t kb cap cs hE n0) := by
  refine MetFree.of_bodySF (plainFor_of_name pn_java_util_Arrays) hisR ?_
  intro pg ev sb mi gs below me cd s₁ Bd hml0 hPt hKt
  obtain ⟨rfl, hZ, hh⟩ := hPt
  have hx := Bd.exec
  have hby := Bd.bytes
  have hml : cd.maxLocals = 3 := hml0
  have hown : sb.vm.findClass c10_ = some mi.cls := findClass_of_methodNamed Bd.named
  have X0 : Stand pg la ev (rr 1 1 120 14) sb mi #[(.ref t), (.int 0), (.int (Int32.ofNat cs.length))] below me cd s₁ [] 0 0 := Stand.of_body Bd
  have eE : s₁.heap = hE := by rw [← hh, Bd.state]; rfl
  have N0 := Fr.nil n0
  have pre0 : ∀ tt, SP pg ev below (s₁.setTop (mkF mi 0 #[.val (.ref t), .val (.int 0), .val (.int (Int32.ofNat cs.length))] [])) tt → SP pg ev below (s₁.setTop (entryFrame mi #[(.ref t), (.int 0), (.int (Int32.ofNat cs.length))] 3)) tt := fun tt kk => castTop (ef_crf mi t cs) kk
  obtain ⟨cl101, Ar101, -, Sz101, Nn101, -, -⟩ := id P0_
  obtain ⟨T102, h102, X102, e102, E102, V102, B102, st102⟩ := cloneH X0 hx hZ hown (ad := "[B") (wd266 hw) (wd267 hw) (wd271 hw) (wd269 hw) (wd270 hw) (wd272 hw) eE P0_.arh P1_ (g := (mkF mi 18 #[.val (.ref t), .val (.int 0), .val (.int (Int32.ofNat cs.length))] [(.ref t)])) rfl (by rw [hml]; rfl) (rest := []) rfl (hb hby dj5_18) (by decide) (W := 0) (cap := 120) (Nat.le_of_ble_eq_true rfl) (by decide) (by rw [own_n32 (by omega)]; omega) (by decide) (by decide)
  obtain ⟨b102, q102⟩ : ∃ z, z = hE.size := ⟨_, rfl⟩
  rw [← q102] at V102 B102 st102
  have f103 : Arv Z h102 b102 kb .byte (Int32.ofNat cs.length) (bys cs) (.int 0) := by have hq : Arv _ _ _ _ _ _ _ _ := V102; rw [own_pads_full hlc, ← hlc] at hq; exact hq
  obtain ⟨T104, X104, e104, st104⟩ := castY X102 hx hZ hown (wd273 hw) e102 (Ins.self B102) (g := (mkF mi 21 #[.val (.ref t), .val (.int 0), .val (.int (Int32.ofNat cs.length))] [(.ref b102)])) rfl rfl (hb hby dj5_21)
  obtain ⟨fs, hr, hrun, hended, hW, hsame⟩ := X104.leave (v := some (.ref b102)) (fun hq => by rw [Bd.returns] at hq; cases hq)
  refine ⟨_, _, pre0 _ ?_, hrun, hended, _, _, rfl, ?_, ⟨_, rfl⟩, hW, hsame.mono (by decide) (by decide)⟩
  · show SP pg ev below (s₁.setTop (mkF mi 0 #[.val (.ref t), .val (.int 0), .val (.int (Int32.ofNat cs.length))] [])) _
    refine XS.iloadN X0.here hx rfl (hb hby dj5_0) rfl ?_
    refine XS.ifNo X0.here hx rfl (hb hby dj5_1) rfl ((if0 _ _).trans (teq (rfl : (0 : Int32) = (0 : Int32))).2) ?_
    refine XS.iloadN X0.here hx rfl (hb hby dj5_4) rfl ?_
    refine XS.aloadN X0.here hx rfl (hb hby dj5_5) rfl rfl ?_
    refine X0.arraylength hx (cell := cl101) (by rw [eE]; exact Ar101.1) (State.isArrayOf_alike hZ.alike Ar101.2.1) (g := (mkF mi 6 #[.val (.ref t), .val (.int 0), .val (.int (Int32.ofNat cs.length))] [(.ref t), (.int (Int32.ofNat cs.length))])) rfl (rest := [(.int (Int32.ofNat cs.length))]) rfl (hb hby dj5_6) _ ?_
    rw [len_of Sz101 Nn101]
    refine XS.icmpYes X0.here hx rfl (pc0 := 7) (pc' := 17) rfl (hb hby dj5_7) rfl (teq ((own_eq32 (by omega) (by omega)).mpr hlc)).1 (by decide) (by decide) ?_
    refine XS.aloadN X0.here hx rfl (hb hby dj5_17) rfl rfl ?_
    refine st102 _ ?_
    refine st104 _ ?_
    show SP pg ev below (T104.setTop (mkF mi 24 #[.val (.ref t), .val (.int 0), .val (.int (Int32.ofNat cs.length))] [(.ref b102)])) _
    jvm_step X104.here [X104.here.top, hx, (hb hby dj5_24), X104.method', Bd.returns, Value.isRef, FieldType.isReference]
    first | (intro acts; rw [hr _ acts rfl rfl rfl]) | rw [hr _ _ rfl rfl rfl]
    exact Steps.refl _
  · show Q_crf Z t kb cap cs hE n0 _ T104.heap _
    rw [e104]
    exact ⟨b102, kb, rfl, N0, ((Keep.refl hE []).ext E102), (Nat.le_of_eq q102.symm), f103⟩
theorem dj6_0 : decode jc6 0 = .ok (.aload_n 0, 1) := by decide +kernel
theorem dj6_1 : decode jc6 1 = .ok (.invokespecial 1, 3) := by decide +kernel
theorem dj6_4 : decode jc6 4 = .ok (.aload_n 1, 1) := by decide +kernel
theorem dj6_5 : decode jc6 5 = .ok (.invokevirtual 552, 3) := by decide +kernel
theorem dj6_8 : decode jc6 8 = .ok (.astore_n 3, 1) := by decide +kernel
theorem dj6_9 : decode jc6 9 = .ok (.aload_n 1, 1) := by decide +kernel
theorem dj6_10 : decode jc6 10 = .ok (.invokevirtual 549, 3) := by decide +kernel
theorem dj6_13 : decode jc6 13 = .ok (.istore 4, 2) := by decide +kernel
theorem dj6_15 : decode jc6 15 = .ok (.aload_n 1, 1) := by decide +kernel
theorem dj6_16 : decode jc6 16 = .ok (.invokevirtual 1047, 3) := by decide +kernel
theorem dj6_19 : decode jc6 19 = .ok (.ifCond .eq 22, 3) := by decide +kernel
theorem dj6_22 : decode jc6 22 = .ok (.aload_n 0, 1) := by decide +kernel
theorem dj6_23 : decode jc6 23 = .ok (.iconst 0, 1) := by decide +kernel
theorem dj6_24 : decode jc6 24 = .ok (.putfield 15, 3) := by decide +kernel
theorem dj6_27 : decode jc6 27 = .ok (.aload_n 0, 1) := by decide +kernel
theorem dj6_28 : decode jc6 28 = .ok (.aload_n 3, 1) := by decide +kernel
theorem dj6_29 : decode jc6 29 = .ok (.iconst 0, 1) := by decide +kernel
theorem dj6_30 : decode jc6 30 = .ok (.iload 4, 2) := by decide +kernel
theorem dj6_32 : decode jc6 32 = .ok (.invokestatic 54, 3) := by decide +kernel
theorem dj6_35 : decode jc6 35 = .ok (.putfield 9, 3) := by decide +kernel
theorem dj6_38 : decode jc6 38 = .ok (.goto 59, 3) := by decide +kernel
theorem dj6_97 : decode jc6 97 = .ok (.return_, 1) := by decide +kernel
theorem pd_13 : parseMethodDescriptor "()[B" = some ⟨[], some (.array .byte)⟩ := by decide +kernel
theorem pd_14 : parseMethodDescriptor "()Z" = some ⟨[], some .boolean⟩ := by decide +kernel
theorem ef_sia_cut (mi : MethodId) (x : Addr) (b : Addr) : entryFrame mi #[(.ref x), (.ref b), .null] 5 = mkF mi 0 #[.val (.ref x), .val (.ref b), .val .null, .unset, .unset] [] := rfl
def Q_sia_cut (Z : State) (x b t : Addr) (cap : Nat) (cs : List Int32) (zc : Int32) (hE : Heap) (n0 : Nat) (vv : Option Value) (hh : Heap) (LL : List Loc) : Prop := ∃ r : Addr, (vv = none) ∧ (Fr n0 LL) ∧ (Keep hE hh [x]) ∧ (hE.size ≤ r) ∧ (LStr Z hh x r cs)
theorem rm_sia_cut (hw : HW a0 Z) (ws : List Cond) (x b t : Addr) (cap : Nat) (cs : List Int32) (zc : Int32) (hE : Heap) (n0 : Nat) (O : Old Z n0 hE) (P0_ : Exa Z hE x c1_) (P1_ : Fld Z hE x c1_ "value" "[B" .null) (P2_ : Fld Z hE x c1_ "coder" "B" (.int 0)) (P3_ : SBl Z hE b t cap cs) (D0_ : Sta Z Z.heap c1_ c6_ "Z" (.int zc)) (g_x : n0 ≤ x) (ne_b_x : b ≠ x) (ne_t_x : t ≠ x) (hlc : cs.length < cap) (hzc : ¬ (zc = (0 : Int32))) :
    MF la Z hE mn22 jc6 5 none ws (rr 3 1 120 49) #[(.ref x), (.ref b), .null] (Q_sia_cut Z x b t cap cs zc hE n0) := by
  refine MetFree.of_bodySF (plainFor_of_name pn_java_lang_String) hisR ?_
  intro pg ev sb mi gs below me cd s₁ Bd hml0 hPt hKt
  obtain ⟨rfl, hZ, hh⟩ := hPt
  have hx := Bd.exec
  have hby := Bd.bytes
  have hml : cd.maxLocals = 5 := hml0
  have hown : sb.vm.findClass c1_ = some mi.cls := findClass_of_methodNamed Bd.named
  have hnm := (name_of_methodNamed Bd.named Bd.method).1
  have X0 : Stand pg la ev (rr 3 1 120 49) sb mi #[(.ref x), (.ref b), .null] below me cd s₁ [] 0 0 := Stand.of_body Bd
  have eE : s₁.heap = hE := by rw [← hh, Bd.state]; rfl
  have N0 := Fr.nil n0
  have pre0 : ∀ tt, SP pg ev below (s₁.setTop (mkF mi 0 #[.val (.ref x), .val (.ref b), .val .null, .unset, .unset] [])) tt → SP pg ev below (s₁.setTop (entryFrame mi #[(.ref x), (.ref b), .null] 5)) tt := fun tt kk => castTop (ef_sia_cut mi x b) kk
  obtain ⟨T101, X101, e101, st101⟩ := initO X0 hx hZ hown (wd15 hw) (wd16 hw) (wd17 hw) eE (g := (mkF mi 1 #[.val (.ref x), .val (.ref b), .val .null, .unset, .unset] [(.ref x)])) rfl (by rw [hml]; rfl) rfl (hb hby dj6_1) (by decide) (W := 0) (Nat.le_of_ble_eq_true rfl) (by decide)
  obtain ⟨bE102, bV102, bC102, bN102, ⟨kb102, bK102⟩, bX102, bb102, bl102, bm102⟩ := id P3_
  obtain ⟨cq103, kq103, q103a, q103b, q103c⟩ := isOf hZ e101 bE102
  obtain ⟨v103, _, ⟨T103, L103, k103, n103⟩, -, X103, ⟨Lc103, hQ103, l103, y103, z103⟩, st103⟩ := X101.virtualBack hx (y := mn15) (z := mn15) hown (mvT hZ (wd208 hw)) (mvT hZ (wd209 hw)) (notFace_of_selects (args := #[]) (mvT hZ (wd211 hw))) (mvT hZ (wd211 hw)) (mvT hZ (wd210 hw)) (by decide) (backOf (W := 0) (rm_agv la Z a0 hw [] b t hE n0 O bV102) hZ (wd212 hw) (wd140 hw) (by decide) (by decide)) q103a q103c (g := (mkF mi 5 #[.val (.ref x), .val (.ref b), .val .null, .unset, .unset] [(.ref b)])) rfl (by rw [hml]; rfl) (Steps.refl _) (argsL := []) (rest := []) (lenOf pd_13 rfl) rfl (Nat.le_of_ble_eq_true rfl) (hb hby dj6_5) (fun _ _ => ⟨rfl, e101, (by decide : 0 + 0 ≤ _), (by decide : 0 + 0 ≤ _)⟩)
  dsimp only [Pt.U, Pt.locs, Pt.cells, Pt.slots] at X103 l103 y103 z103 st103 hQ103
  subst l103 y103 z103
  obtain ⟨rfl, Nq103, ek103⟩ := hQ103
  have N103 := Fr.app N0 Nq103
  obtain ⟨cq104, kq104, q104a, q104b, q104c⟩ := isOf hZ ek103 bE102
  obtain ⟨v104, _, ⟨T104, L104, k104, n104⟩, -, X104, ⟨Lc104, hQ104, l104, y104, z104⟩, st104⟩ := X103.virtualBack hx (y := mn16) (z := mn17) hown (mvT hZ (wd213 hw)) (mvT hZ (wd214 hw)) (own_nf (args := #[]) (mvT hZ (wd169 hw)) rfl) (mvT hZ (wd216 hw)) (mvT hZ (wd217 hw)) (by decide) (backOf (W := 0) (rm_sbl la Z a0 hw [] b (Int32.ofNat cs.length) hE n0 O bE102 bN102) hZ (wd218 hw) (wd132 hw) (by decide) (by decide)) q104a q104c (g := (mkF mi 10 #[.val (.ref x), .val (.ref b), .val .null, .val (.ref t), .unset] [(.ref b)])) rfl (by rw [hml]; rfl) (Steps.refl _) (argsL := []) (rest := []) (lenOf pd_8 rfl) rfl (Nat.le_of_ble_eq_true rfl) (hb hby dj6_10) (fun _ _ => ⟨rfl, ek103, (by decide : 0 + 0 ≤ _), (by decide : 0 + 0 ≤ _)⟩)
  dsimp only [Pt.U, Pt.locs, Pt.cells, Pt.slots] at X104 l104 y104 z104 st104 hQ104
  subst l104 y104 z104
  obtain ⟨rfl, Nq104, ek104⟩ := hQ104
  have N104 := Fr.app N103 Nq104
  obtain ⟨cq105, kq105, q105a, q105b, q105c⟩ := isOf hZ ek104 bE102
  obtain ⟨v105, _, ⟨T105, L105, k105, n105⟩, -, X105, ⟨Lc105, hQ105, l105, y105, z105⟩, st105⟩ := X104.virtualBack hx (y := mn18) (z := mn18) hown (mvT hZ (wd221 hw)) (mvT hZ (wd222 hw)) (notFace_of_selects (args := #[]) (mvT hZ (wd224 hw))) (mvT hZ (wd224 hw)) (mvT hZ (wd223 hw)) (by decide) (backOf (W := 0) (rm_ail1 la Z a0 hw [] b zc hE n0 O bC102 D0_ (hzc : ¬ (zc = (0 : Int32)))) hZ (wd225 hw) (wd140 hw) (by decide) (by decide)) q105a q105c (g := (mkF mi 16 #[.val (.ref x), .val (.ref b), .val .null, .val (.ref t), .val (.int (Int32.ofNat cs.length))] [(.ref b)])) rfl (by rw [hml]; rfl) (Steps.refl _) (argsL := []) (rest := []) (lenOf pd_14 rfl) rfl (Nat.le_of_ble_eq_true rfl) (hb hby dj6_16) (fun _ _ => ⟨rfl, ek104, (by decide : 0 + 0 ≤ _), (by decide : 0 + 0 ≤ _)⟩)
  dsimp only [Pt.U, Pt.locs, Pt.cells, Pt.slots] at X105 l105 y105 z105 st105 hQ105
  subst l105 y105 z105
  obtain ⟨rfl, Nq105, ek105⟩ := hQ105
  have N105 := Fr.app N104 Nq105
  obtain ⟨T106, h106, X106, e106, W106, st106⟩ := putFN X105 hx hZ hown (wd30 hw) Via.refl ek105 P2_ P0_ (Or.inr ⟨(wd31 hw), rfl, hnm⟩) (wd5 hw) (ty := .byte) (v' := (.int 0)) (by decide) rfl rfl (g := (mkF mi 24 #[.val (.ref x), .val (.ref b), .val .null, .val (.ref t), .val (.int (Int32.ofNat cs.length))] [(.int 0), (.ref x)])) rfl rfl (hb hby dj6_24)
  have N106 := Fr.snoc X106 N105 g_x
  have f107 : Fld Z h106 x c1_ "coder" "B" (.int 0) := P2_.same W106
  have O108 : Old Z n0 h106 := (O.keep (Keep.of_wr W106) (allS g_x all0))
  have f109 : Arv Z h106 t kb102 .byte (Int32.ofNat cap) (pads cap cs) (.int 0) := (bK102.keep (Keep.of_wr W106) (ninS ne_t_x nin0))
  obtain ⟨v110, _, ⟨T110, L110, k110, n110⟩, -, X110, ⟨Lc110, hQ110, l110, y110, z110⟩, st110⟩ := Jvm.LawKit.callS X106 hx (y := mn21) hown (mvT hZ (wd226 hw)) (mvT hZ (wd227 hw)) (mvT hZ (wd228 hw)) (mvT hZ (wd229 hw)) (by decide) (backOf (W := 1) (rm_crc la Z a0 hw [] t kb102 cap cs h106 n0 O108 f109 (hlc : cs.length < cap) (bm102 : cap ≤ 120)) hZ (wd229 hw) (wd228 hw) (by decide) (by decide)) (g := (mkF mi 32 #[.val (.ref x), .val (.ref b), .val .null, .val (.ref t), .val (.int (Int32.ofNat cs.length))] [(.int (Int32.ofNat cs.length)), (.int 0), (.ref t), (.ref x)])) rfl (by rw [hml]; rfl) (argsL := [(.ref t), (.int 0), (.int (Int32.ofNat cs.length))]) (rest := [(.ref x)]) (lenOf pd_12 rfl) rfl (Nat.le_of_ble_eq_true rfl) (hb hby dj6_32) (fun _ _ => ⟨rfl, e106, (by decide : 0 + 1 ≤ _), (by decide : 0 + 120 ≤ _)⟩)
  dsimp only [Pt.U, Pt.locs, Pt.cells, Pt.slots] at X110 l110 y110 z110 st110 hQ110
  subst l110 y110 z110
  obtain ⟨r_110, kr_110, rfl, Nq110, Kq110, fr_r_110, r110_0⟩ := hQ110
  have N110 := Fr.app N106 Nq110
  have f111 : Exa Z T110.heap x c1_ := ((P0_.keep (Keep.of_wr W106)).keep Kq110)
  have f112 : Fld Z T110.heap x c1_ "value" "[B" .null := ((P1_.other W106 (Or.inr (slot_ne (Or.inr (wd33 hw)) (Or.inr (wd31 hw)) (by decide) (t := (.array .byte)) (t' := .byte) (by decide) (by decide)))).keep Kq110 nin0)
  obtain ⟨T113, h113, X113, e113, W113, st113⟩ := putF X110 hx hZ hown (host := "") (Or.inl (wd32 hw)) Via.refl rfl f112 f111 (Or.inr ⟨(wd33 hw), rfl, hnm⟩) (wd5 hw) (ty := (.array .byte)) (by decide) rfl rfl (g := (mkF mi 35 #[.val (.ref x), .val (.ref b), .val .null, .val (.ref t), .val (.int (Int32.ofNat cs.length))] [(.ref r_110), (.ref x)])) rfl rfl (hb hby dj6_35)
  have N113 := Fr.snoc X113 N110 g_x
  have f114 : Fld Z h113 x c1_ "value" "[B" (.ref r_110) := f112.same W113
  have f116 : Exa Z h113 x c1_ := (f111.keep (Keep.of_wr W113))
  have f117 : Fld Z h113 x c1_ "coder" "B" (.int 0) := ((f107.keep Kq110 nin0).other W113 (Or.inr (slot_ne (Or.inr (wd31 hw)) (Or.inr (wd33 hw)) (by decide) (t := .byte) (t' := (.array .byte)) (by decide) (by decide))))
  have ne_x_r_110 : x ≠ r_110 := Nat.ne_of_lt (Nat.lt_of_lt_of_le P0_.lt (Nat.le_trans (Keep.of_wr W106).1 fr_r_110))
  have f118 : Arv Z h113 r_110 kr_110 .byte (Int32.ofNat cs.length) (bys cs) (.int 0) := (r110_0.keep (Keep.of_wr W113) (ninS (Ne.symm ne_x_r_110) nin0))
  have s115 : LStr Z h113 x r_110 cs := ⟨f116, f114, f117, ⟨_, f118⟩, bb102, (by have := bl102; have := bm102; omega)⟩
  obtain ⟨fs, hr, hrun, hended, hW, hsame⟩ := X113.leave (v := none) (fun _ => rfl)
  refine ⟨_, _, pre0 _ ?_, hrun, hended, _, _, rfl, ?_, ⟨_, rfl⟩, hW, hsame.mono (by decide) (by decide)⟩
  · show SP pg ev below (s₁.setTop (mkF mi 0 #[.val (.ref x), .val (.ref b), .val .null, .unset, .unset] [])) _
    refine XS.aloadN X0.here hx rfl (hb hby dj6_0) rfl rfl ?_
    refine st101 _ ?_
    refine XS.aloadN X101.here hx rfl (hb hby dj6_4) rfl rfl ?_
    refine st103.trans ?_
    refine XS.astoreN X103.here hx rfl (hb hby dj6_8) rfl rfl (l' := #[.val (.ref x), .val (.ref b), .val .null, .val (.ref t), .unset]) rfl ?_
    refine XS.aloadN X103.here hx rfl (hb hby dj6_9) rfl rfl ?_
    refine st104.trans ?_
    refine XS.istore X104.here hx rfl (hb hby dj6_13) rfl (l' := #[.val (.ref x), .val (.ref b), .val .null, .val (.ref t), .val (.int (Int32.ofNat cs.length))]) rfl ?_
    refine XS.aloadN X104.here hx rfl (hb hby dj6_15) rfl rfl ?_
    refine st105.trans ?_
    refine XS.ifNo X105.here hx rfl (hb hby dj6_19) rfl ((if0 _ _).trans (feq (by decide : ¬ ((1 : Int32) = (0 : Int32)))).1) ?_
    refine XS.aloadN X105.here hx rfl (hb hby dj6_22) rfl rfl ?_
    refine XS.iconst X105.here hx rfl (hb hby dj6_23) ?_
    refine st106 _ ?_
    refine XS.aloadN X106.here hx rfl (hb hby dj6_27) rfl rfl ?_
    refine XS.aloadN X106.here hx rfl (hb hby dj6_28) rfl rfl ?_
    refine XS.iconst X106.here hx rfl (hb hby dj6_29) ?_
    refine XS.iload X106.here hx rfl (hb hby dj6_30) rfl ?_
    refine st110 _ ?_
    refine st113 _ ?_
    refine XS.goto X113.here hx rfl (pc0 := 38) (pc' := 97) rfl (hb hby dj6_38) (by decide) (by decide) ?_
    show SP pg ev below (T113.setTop (mkF mi 97 #[.val (.ref x), .val (.ref b), .val .null, .val (.ref t), .val (.int (Int32.ofNat cs.length))] [])) _
    exact X113.returnOut hx Bd.returns (hb hby dj6_97) hr
  · show Q_sia_cut Z x b t cap cs zc hE n0 _ T113.heap _
    rw [e113]
    exact ⟨r_110, rfl, N113, ((((Keep.refl hE [x]).trans (Keep.of_wr W106) (allS (Or.inl (List.mem_of_getElem? (i := 0) rfl)) all0)).trans Kq110 all0).trans (Keep.of_wr W113) (allS (Or.inl (List.mem_of_getElem? (i := 0) rfl)) all0)), (Nat.le_trans (Keep.of_wr W106).1 fr_r_110), s115⟩
theorem dj22_0 : decode jc22 0 = .ok (.aload_n 0, 1) := by decide +kernel
theorem dj22_1 : decode jc22 1 = .ok (.aload_n 1, 1) := by decide +kernel
theorem dj22_2 : decode jc22 2 = .ok (.aconst_null, 1) := by decide +kernel
theorem dj22_3 : decode jc22 3 = .ok (.invokespecial 489, 3) := by decide +kernel
theorem dj22_6 : decode jc22 6 = .ok (.return_, 1) := by decide +kernel
theorem pd_15 : parseMethodDescriptor "(Ljava/lang/AbstractStringBuilder;Ljava/lang/Void;)V" = some ⟨[(.object "java/lang/AbstractStringBuilder"), (.object "java/lang/Void")], none⟩ := by decide +kernel
theorem ef_sis_cut (mi : MethodId) (x : Addr) (b : Addr) : entryFrame mi #[(.ref x), (.ref b)] 2 = mkF mi 0 #[.val (.ref x), .val (.ref b)] [] := rfl
def Q_sis_cut (Z : State) (x b t : Addr) (cap : Nat) (cs : List Int32) (zc : Int32) (hE : Heap) (n0 : Nat) (vv : Option Value) (hh : Heap) (LL : List Loc) : Prop := ∃ r : Addr, (vv = none) ∧ (Fr n0 LL) ∧ (Keep hE hh [x]) ∧ (hE.size ≤ r) ∧ (LStr Z hh x r cs)
theorem rm_sis_cut (hw : HW a0 Z) (ws : List Cond) (x b t : Addr) (cap : Nat) (cs : List Int32) (zc : Int32) (hE : Heap) (n0 : Nat) (O : Old Z n0 hE) (P0_ : Exa Z hE x c1_) (P1_ : Fld Z hE x c1_ "value" "[B" .null) (P2_ : Fld Z hE x c1_ "coder" "B" (.int 0)) (P3_ : SBl Z hE b t cap cs) (D0_ : Sta Z Z.heap c1_ c6_ "Z" (.int zc)) (g_x : n0 ≤ x) (ne_b_x : b ≠ x) (ne_t_x : t ≠ x) (hlc : cs.length < cap) (hzc : ¬ (zc = (0 : Int32))) :
    MF la Z hE mn23 jc22 2 none ws (rr 4 1 120 65) #[(.ref x), (.ref b)] (Q_sis_cut Z x b t cap cs zc hE n0) := by
  refine MetFree.of_bodySF (plainFor_of_name pn_java_lang_String) hisR ?_
  intro pg ev sb mi gs below me cd s₁ Bd hml0 hPt hKt
  obtain ⟨rfl, hZ, hh⟩ := hPt
  have hx := Bd.exec
  have hby := Bd.bytes
  have hml : cd.maxLocals = 2 := hml0
  have hown : sb.vm.findClass c1_ = some mi.cls := findClass_of_methodNamed Bd.named
  have X0 : Stand pg la ev (rr 4 1 120 65) sb mi #[(.ref x), (.ref b)] below me cd s₁ [] 0 0 := Stand.of_body Bd
  have eE : s₁.heap = hE := by rw [← hh, Bd.state]; rfl
  have N0 := Fr.nil n0
  have pre0 : ∀ tt, SP pg ev below (s₁.setTop (mkF mi 0 #[.val (.ref x), .val (.ref b)] [])) tt → SP pg ev below (s₁.setTop (entryFrame mi #[(.ref x), (.ref b)] 2)) tt := fun tt kk => castTop (ef_sis_cut mi x b) kk
  obtain ⟨v101, _, ⟨T101, L101, k101, n101⟩, -, X101, ⟨Lc101, hQ101, l101, y101, z101⟩, st101⟩ := X0.specialBack hx (y := mn22) rfl hown (mvT hZ (wd205 hw)) (mvT hZ (wd206 hw)) (mvT hZ (wd207 hw)) (by decide) (backOf (W := 0) (rm_sia_cut la Z a0 hw [] x b t cap cs zc hE n0 O P0_ P1_ P2_ P3_ D0_ g_x ne_b_x ne_t_x (hlc : cs.length < cap) (hzc : ¬ (zc = (0 : Int32)))) hZ (wd207 hw) (wd6 hw) (by decide) (by decide)) (g := (mkF mi 3 #[.val (.ref x), .val (.ref b)] [.null, (.ref b), (.ref x)])) rfl (by rw [hml]; rfl) (Steps.refl _) (a := x) (argsL := [(.ref b), .null]) (rest := []) (lenOf pd_15 rfl) rfl (Nat.le_of_ble_eq_true rfl) (hb hby dj22_3) (fun _ _ => ⟨rfl, eE, (by decide : 0 + 1 ≤ _), (by decide : 0 + 120 ≤ _)⟩)
  dsimp only [Pt.U, Pt.locs, Pt.cells, Pt.slots] at X101 l101 y101 z101 st101 hQ101
  subst l101 y101 z101
  obtain ⟨r_101, rfl, Nq101, Kq101, fr_r_101, r101_0⟩ := hQ101
  have N101 := Fr.app N0 Nq101
  obtain ⟨fs, hr, hrun, hended, hW, hsame⟩ := X101.leave (v := none) (fun _ => rfl)
  refine ⟨_, _, pre0 _ ?_, hrun, hended, _, _, rfl, ?_, ⟨_, rfl⟩, hW, hsame.mono (by decide) (by decide)⟩
  · show SP pg ev below (s₁.setTop (mkF mi 0 #[.val (.ref x), .val (.ref b)] [])) _
    refine XS.aloadN X0.here hx rfl (hb hby dj22_0) rfl rfl ?_
    refine XS.aloadN X0.here hx rfl (hb hby dj22_1) rfl rfl ?_
    refine XS.aconstNull X0.here hx rfl (hb hby dj22_2) ?_
    refine st101.trans ?_
    show SP pg ev below (T101.setTop (mkF mi 6 #[.val (.ref x), .val (.ref b)] [])) _
    exact X101.returnOut hx Bd.returns (hb hby dj22_6) hr
  · show Q_sis_cut Z x b t cap cs zc hE n0 _ T101.heap _
    exact ⟨r_101, rfl, N101, ((Keep.refl hE [x]).trans Kq101 (allS (Or.inl (List.mem_of_getElem? (i := 0) rfl)) all0)), fr_r_101, r101_0⟩
theorem dj23_0 : decode jc23 0 = .ok (.new 18, 3) := by decide +kernel
theorem dj23_3 : decode jc23 3 = .ok (.dup, 1) := by decide +kernel
theorem dj23_4 : decode jc23 4 = .ok (.aload_n 0, 1) := by decide +kernel
theorem dj23_5 : decode jc23 5 = .ok (.invokespecial 137, 3) := by decide +kernel
theorem dj23_8 : decode jc23 8 = .ok (.areturn, 1) := by decide +kernel
theorem pd_16 : parseMethodDescriptor "(Ljava/lang/StringBuilder;)V" = some ⟨[(.object "java/lang/StringBuilder")], none⟩ := by decide +kernel
theorem ef_sbt_cut (mi : MethodId) (b : Addr) : entryFrame mi #[(.ref b)] 1 = mkF mi 0 #[.val (.ref b)] [] := rfl
def Q_sbt_cut (Z : State) (b t : Addr) (cap : Nat) (cs : List Int32) (zc : Int32) (hE : Heap) (n0 : Nat) (vv : Option Value) (hh : Heap) (LL : List Loc) : Prop := ∃ x : Addr, ∃ r : Addr, (vv = some (.ref x)) ∧ (Fr n0 LL) ∧ (Keep hE hh []) ∧ (hE.size ≤ x) ∧ (hE.size ≤ r) ∧ (LStr Z hh x r cs)
theorem rm_sbt_cut (hw : HW a0 Z) (ws : List Cond) (b t : Addr) (cap : Nat) (cs : List Int32) (zc : Int32) (hE : Heap) (n0 : Nat) (O : Old Z n0 hE) (P0_ : SBl Z hE b t cap cs) (D0_ : Sta Z Z.heap c1_ c6_ "Z" (.int zc)) (hlc : cs.length < cap) (hzc : ¬ (zc = (0 : Int32))) :
    MF la Z hE mn24 jc23 1 (some (.object c1_)) ws (rr 5 2 124 79) #[(.ref b)] (Q_sbt_cut Z b t cap cs zc hE n0) := by
  refine MetFree.of_bodySF (plainFor_of_name pn_java_lang_StringBuilder) hisR ?_
  intro pg ev sb mi gs below me cd s₁ Bd hml0 hPt hKt
  obtain ⟨rfl, hZ, hh⟩ := hPt
  have hx := Bd.exec
  have hby := Bd.bytes
  have hml : cd.maxLocals = 1 := hml0
  have hown : sb.vm.findClass c3_ = some mi.cls := findClass_of_methodNamed Bd.named
  have X0 : Stand pg la ev (rr 5 2 124 79) sb mi #[(.ref b)] below me cd s₁ [] 0 0 := Stand.of_body Bd
  have eE : s₁.heap = hE := by rw [← hh, Bd.state]; rfl
  have N0 := Fr.nil n0
  have pre0 : ∀ tt, SP pg ev below (s₁.setTop (mkF mi 0 #[.val (.ref b)] [])) tt → SP pg ev below (s₁.setTop (entryFrame mi #[(.ref b)] 1)) tt := fun tt kk => castTop (ef_sbt_cut mi b) kk
  obtain ⟨T101, h101, X101, e101, E101, A101, D101, -, st101⟩ := newO X0 hx hZ hown (wd201 hw) (wd5 hw) (wd6 hw) eE (g := (mkF mi 0 #[.val (.ref b)] [])) rfl (hb hby dj23_0) (by decide) (by decide)
  obtain ⟨b101, q101⟩ : ∃ z, z = hE.size := ⟨_, rfl⟩
  rw [← q101] at A101 D101 st101
  have f102 : Fld Z h101 b101 c1_ "coder" "B" (.int 0) := D101 (Or.inr (wd31 hw)) (ty := .byte) (by decide)
  have f103 : Fld Z h101 b101 c1_ "value" "[B" .null := D101 (Or.inr (wd33 hw)) (ty := (.array .byte)) (by decide)
  have O104 : Old Z n0 h101 := (O.ext E101)
  have f105 : SBl Z h101 b t cap cs := (P0_.ext E101)
  have g_b101 : n0 ≤ b101 := Nat.le_trans (Nat.le_trans (Nat.le_of_eq O.1.symm) O.2.1) (Nat.le_of_eq q101.symm)
  have ne_b_b101 : b ≠ b101 := Nat.ne_of_lt (Nat.lt_of_lt_of_le P0_.lt (Nat.le_trans (Nat.le_refl _) (Nat.le_of_eq q101.symm)))
  have ne_t_b101 : t ≠ b101 := Nat.ne_of_lt (Nat.lt_of_lt_of_le P0_.ltt (Nat.le_trans (Nat.le_refl _) (Nat.le_of_eq q101.symm)))
  obtain ⟨v106, _, ⟨T106, L106, k106, n106⟩, -, X106, ⟨Lc106, hQ106, l106, y106, z106⟩, st106⟩ := X101.specialBack hx (y := mn23) rfl hown (mvT hZ (wd202 hw)) (mvT hZ (wd203 hw)) (mvT hZ (wd204 hw)) (by decide) (backOf (W := 1) (rm_sis_cut la Z a0 hw [] b101 b t cap cs zc h101 n0 O104 A101 f103 f102 f105 D0_ g_b101 ne_b_b101 ne_t_b101 (hlc : cs.length < cap) (hzc : ¬ (zc = (0 : Int32)))) hZ (wd204 hw) (wd6 hw) (by decide) (by decide)) (g := (mkF mi 5 #[.val (.ref b)] [(.ref b), (.ref b101), (.ref b101)])) rfl (by rw [hml]; rfl) (Steps.refl _) (a := b101) (argsL := [(.ref b)]) (rest := [(.ref b101)]) (lenOf pd_16 rfl) rfl (Nat.le_of_ble_eq_true rfl) (hb hby dj23_5) (fun _ _ => ⟨rfl, e101, (by decide : 1 + 1 ≤ _), (by decide : 4 + 120 ≤ _)⟩)
  dsimp only [Pt.U, Pt.locs, Pt.cells, Pt.slots] at X106 l106 y106 z106 st106 hQ106
  subst l106 y106 z106
  obtain ⟨r_106, rfl, Nq106, Kq106, fr_r_106, r106_0⟩ := hQ106
  have N106 := Fr.app N0 Nq106
  obtain ⟨fs, hr, hrun, hended, hW, hsame⟩ := X106.leave (v := some (.ref b101)) (fun hq => by rw [Bd.returns] at hq; cases hq)
  refine ⟨_, _, pre0 _ ?_, hrun, hended, _, _, rfl, ?_, ⟨_, rfl⟩, hW, hsame.mono (by decide) (by decide)⟩
  · show SP pg ev below (s₁.setTop (mkF mi 0 #[.val (.ref b)] [])) _
    refine st101 _ ?_
    refine XS.dup X101.here hx rfl (hb hby dj23_3) rfl rfl ?_
    refine XS.aloadN X101.here hx rfl (hb hby dj23_4) rfl rfl ?_
    refine st106.trans ?_
    show SP pg ev below (T106.setTop (mkF mi 8 #[.val (.ref b)] [(.ref b101)])) _
    jvm_step X106.here [X106.here.top, hx, (hb hby dj23_8), X106.method', Bd.returns, Value.isRef, FieldType.isReference]
    first | (intro acts; rw [hr _ acts rfl rfl rfl]) | rw [hr _ _ rfl rfl rfl]
    exact Steps.refl _
  · show Q_sbt_cut Z b t cap cs zc hE n0 _ T106.heap _
    exact ⟨b101, r_106, rfl, N106, (((Keep.refl hE []).ext E101).trans Kq106 (allS (Or.inr (Nat.le_of_eq q101.symm)) all0)), (Nat.le_of_eq q101.symm), (Nat.le_trans E101.1 fr_r_106), r106_0⟩
theorem ef_sia_full (mi : MethodId) (x : Addr) (b : Addr) : entryFrame mi #[(.ref x), (.ref b), .null] 5 = mkF mi 0 #[.val (.ref x), .val (.ref b), .val .null, .unset, .unset] [] := rfl
def Q_sia_full (Z : State) (x b t : Addr) (cap : Nat) (cs : List Int32) (zc : Int32) (hE : Heap) (n0 : Nat) (vv : Option Value) (hh : Heap) (LL : List Loc) : Prop := ∃ r : Addr, (vv = none) ∧ (Fr n0 LL) ∧ (Keep hE hh [x]) ∧ (hE.size ≤ r) ∧ (LStr Z hh x r cs)
theorem rm_sia_full (hw : HW a0 Z) (ws : List Cond) (x b t : Addr) (cap : Nat) (cs : List Int32) (zc : Int32) (hE : Heap) (n0 : Nat) (O : Old Z n0 hE) (P0_ : Exa Z hE x c1_) (P1_ : Fld Z hE x c1_ "value" "[B" .null) (P2_ : Fld Z hE x c1_ "coder" "B" (.int 0)) (P3_ : SBl Z hE b t cap cs) (D0_ : Sta Z Z.heap c1_ c6_ "Z" (.int zc)) (g_x : n0 ≤ x) (ne_b_x : b ≠ x) (ne_t_x : t ≠ x) (hlc : cs.length = cap) (hzc : ¬ (zc = (0 : Int32))) :
    MF la Z hE mn22 jc6 5 none ws (rr 2 1 120 29) #[(.ref x), (.ref b), .null] (Q_sia_full Z x b t cap cs zc hE n0) := by
  refine MetFree.of_bodySF (plainFor_of_name pn_java_lang_String) hisR ?_
  intro pg ev sb mi gs below me cd s₁ Bd hml0 hPt hKt
  obtain ⟨rfl, hZ, hh⟩ := hPt
  have hx := Bd.exec
  have hby := Bd.bytes
  have hml : cd.maxLocals = 5 := hml0
  have hown : sb.vm.findClass c1_ = some mi.cls := findClass_of_methodNamed Bd.named
  have hnm := (name_of_methodNamed Bd.named Bd.method).1
  have X0 : Stand pg la ev (rr 2 1 120 29) sb mi #[(.ref x), (.ref b), .null] below me cd s₁ [] 0 0 := Stand.of_body Bd
  have eE : s₁.heap = hE := by rw [← hh, Bd.state]; rfl
  have N0 := Fr.nil n0
  have pre0 : ∀ tt, SP pg ev below (s₁.setTop (mkF mi 0 #[.val (.ref x), .val (.ref b), .val .null, .unset, .unset] [])) tt → SP pg ev below (s₁.setTop (entryFrame mi #[(.ref x), (.ref b), .null] 5)) tt := fun tt kk => castTop (ef_sia_full mi x b) kk
  obtain ⟨T101, X101, e101, st101⟩ := initO X0 hx hZ hown (wd15 hw) (wd16 hw) (wd17 hw) eE (g := (mkF mi 1 #[.val (.ref x), .val (.ref b), .val .null, .unset, .unset] [(.ref x)])) rfl (by rw [hml]; rfl) rfl (hb hby dj6_1) (by decide) (W := 0) (Nat.le_of_ble_eq_true rfl) (by decide)
  obtain ⟨bE102, bV102, bC102, bN102, ⟨kb102, bK102⟩, bX102, bb102, bl102, bm102⟩ := id P3_
  obtain ⟨cq103, kq103, q103a, q103b, q103c⟩ := isOf hZ e101 bE102
  obtain ⟨v103, _, ⟨T103, L103, k103, n103⟩, -, X103, ⟨Lc103, hQ103, l103, y103, z103⟩, st103⟩ := X101.virtualBack hx (y := mn15) (z := mn15) hown (mvT hZ (wd208 hw)) (mvT hZ (wd209 hw)) (notFace_of_selects (args := #[]) (mvT hZ (wd211 hw))) (mvT hZ (wd211 hw)) (mvT hZ (wd210 hw)) (by decide) (backOf (W := 0) (rm_agv la Z a0 hw [] b t hE n0 O bV102) hZ (wd212 hw) (wd140 hw) (by decide) (by decide)) q103a q103c (g := (mkF mi 5 #[.val (.ref x), .val (.ref b), .val .null, .unset, .unset] [(.ref b)])) rfl (by rw [hml]; rfl) (Steps.refl _) (argsL := []) (rest := []) (lenOf pd_13 rfl) rfl (Nat.le_of_ble_eq_true rfl) (hb hby dj6_5) (fun _ _ => ⟨rfl, e101, (by decide : 0 + 0 ≤ _), (by decide : 0 + 0 ≤ _)⟩)
  dsimp only [Pt.U, Pt.locs, Pt.cells, Pt.slots] at X103 l103 y103 z103 st103 hQ103
  subst l103 y103 z103
  obtain ⟨rfl, Nq103, ek103⟩ := hQ103
  have N103 := Fr.app N0 Nq103
  obtain ⟨cq104, kq104, q104a, q104b, q104c⟩ := isOf hZ ek103 bE102
  obtain ⟨v104, _, ⟨T104, L104, k104, n104⟩, -, X104, ⟨Lc104, hQ104, l104, y104, z104⟩, st104⟩ := X103.virtualBack hx (y := mn16) (z := mn17) hown (mvT hZ (wd213 hw)) (mvT hZ (wd214 hw)) (own_nf (args := #[]) (mvT hZ (wd169 hw)) rfl) (mvT hZ (wd216 hw)) (mvT hZ (wd217 hw)) (by decide) (backOf (W := 0) (rm_sbl la Z a0 hw [] b (Int32.ofNat cs.length) hE n0 O bE102 bN102) hZ (wd218 hw) (wd132 hw) (by decide) (by decide)) q104a q104c (g := (mkF mi 10 #[.val (.ref x), .val (.ref b), .val .null, .val (.ref t), .unset] [(.ref b)])) rfl (by rw [hml]; rfl) (Steps.refl _) (argsL := []) (rest := []) (lenOf pd_8 rfl) rfl (Nat.le_of_ble_eq_true rfl) (hb hby dj6_10) (fun _ _ => ⟨rfl, ek103, (by decide : 0 + 0 ≤ _), (by decide : 0 + 0 ≤ _)⟩)
  dsimp only [Pt.U, Pt.locs, Pt.cells, Pt.slots] at X104 l104 y104 z104 st104 hQ104
  subst l104 y104 z104
  obtain ⟨rfl, Nq104, ek104⟩ := hQ104
  have N104 := Fr.app N103 Nq104
  obtain ⟨cq105, kq105, q105a, q105b, q105c⟩ := isOf hZ ek104 bE102
  obtain ⟨v105, _, ⟨T105, L105, k105, n105⟩, -, X105, ⟨Lc105, hQ105, l105, y105, z105⟩, st105⟩ := X104.virtualBack hx (y := mn18) (z := mn18) hown (mvT hZ (wd221 hw)) (mvT hZ (wd222 hw)) (notFace_of_selects (args := #[]) (mvT hZ (wd224 hw))) (mvT hZ (wd224 hw)) (mvT hZ (wd223 hw)) (by decide) (backOf (W := 0) (rm_ail1 la Z a0 hw [] b zc hE n0 O bC102 D0_ (hzc : ¬ (zc = (0 : Int32)))) hZ (wd225 hw) (wd140 hw) (by decide) (by decide)) q105a q105c (g := (mkF mi 16 #[.val (.ref x), .val (.ref b), .val .null, .val (.ref t), .val (.int (Int32.ofNat cs.length))] [(.ref b)])) rfl (by rw [hml]; rfl) (Steps.refl _) (argsL := []) (rest := []) (lenOf pd_14 rfl) rfl (Nat.le_of_ble_eq_true rfl) (hb hby dj6_16) (fun _ _ => ⟨rfl, ek104, (by decide : 0 + 0 ≤ _), (by decide : 0 + 0 ≤ _)⟩)
  dsimp only [Pt.U, Pt.locs, Pt.cells, Pt.slots] at X105 l105 y105 z105 st105 hQ105
  subst l105 y105 z105
  obtain ⟨rfl, Nq105, ek105⟩ := hQ105
  have N105 := Fr.app N104 Nq105
  obtain ⟨T106, h106, X106, e106, W106, st106⟩ := putFN X105 hx hZ hown (wd30 hw) Via.refl ek105 P2_ P0_ (Or.inr ⟨(wd31 hw), rfl, hnm⟩) (wd5 hw) (ty := .byte) (v' := (.int 0)) (by decide) rfl rfl (g := (mkF mi 24 #[.val (.ref x), .val (.ref b), .val .null, .val (.ref t), .val (.int (Int32.ofNat cs.length))] [(.int 0), (.ref x)])) rfl rfl (hb hby dj6_24)
  have N106 := Fr.snoc X106 N105 g_x
  have f107 : Fld Z h106 x c1_ "coder" "B" (.int 0) := P2_.same W106
  have O108 : Old Z n0 h106 := (O.keep (Keep.of_wr W106) (allS g_x all0))
  have f109 : Arv Z h106 t kb102 .byte (Int32.ofNat cap) (pads cap cs) (.int 0) := (bK102.keep (Keep.of_wr W106) (ninS ne_t_x nin0))
  have f110 : Exa Z h106 t "[B" := (bX102.keep (Keep.of_wr W106))
  obtain ⟨v111, _, ⟨T111, L111, k111, n111⟩, -, X111, ⟨Lc111, hQ111, l111, y111, z111⟩, st111⟩ := Jvm.LawKit.callS X106 hx (y := mn21) hown (mvT hZ (wd226 hw)) (mvT hZ (wd227 hw)) (mvT hZ (wd228 hw)) (mvT hZ (wd229 hw)) (by decide) (backOf (W := 1) (rm_crf la Z a0 hw [] t kb102 cap cs h106 n0 O108 f109 f110 (hlc : cs.length = cap) (bm102 : cap ≤ 120)) hZ (wd229 hw) (wd228 hw) (by decide) (by decide)) (g := (mkF mi 32 #[.val (.ref x), .val (.ref b), .val .null, .val (.ref t), .val (.int (Int32.ofNat cs.length))] [(.int (Int32.ofNat cs.length)), (.int 0), (.ref t), (.ref x)])) rfl (by rw [hml]; rfl) (argsL := [(.ref t), (.int 0), (.int (Int32.ofNat cs.length))]) (rest := [(.ref x)]) (lenOf pd_12 rfl) rfl (Nat.le_of_ble_eq_true rfl) (hb hby dj6_32) (fun _ _ => ⟨rfl, e106, (by decide : 0 + 1 ≤ _), (by decide : 0 + 120 ≤ _)⟩)
  dsimp only [Pt.U, Pt.locs, Pt.cells, Pt.slots] at X111 l111 y111 z111 st111 hQ111
  subst l111 y111 z111
  obtain ⟨r_111, kr_111, rfl, Nq111, Kq111, fr_r_111, r111_0⟩ := hQ111
  have N111 := Fr.app N106 Nq111
  have f112 : Exa Z T111.heap x c1_ := ((P0_.keep (Keep.of_wr W106)).keep Kq111)
  have f113 : Fld Z T111.heap x c1_ "value" "[B" .null := ((P1_.other W106 (Or.inr (slot_ne (Or.inr (wd33 hw)) (Or.inr (wd31 hw)) (by decide) (t := (.array .byte)) (t' := .byte) (by decide) (by decide)))).keep Kq111 nin0)
  obtain ⟨T114, h114, X114, e114, W114, st114⟩ := putF X111 hx hZ hown (host := "") (Or.inl (wd32 hw)) Via.refl rfl f113 f112 (Or.inr ⟨(wd33 hw), rfl, hnm⟩) (wd5 hw) (ty := (.array .byte)) (by decide) rfl rfl (g := (mkF mi 35 #[.val (.ref x), .val (.ref b), .val .null, .val (.ref t), .val (.int (Int32.ofNat cs.length))] [(.ref r_111), (.ref x)])) rfl rfl (hb hby dj6_35)
  have N114 := Fr.snoc X114 N111 g_x
  have f115 : Fld Z h114 x c1_ "value" "[B" (.ref r_111) := f113.same W114
  have f117 : Exa Z h114 x c1_ := (f112.keep (Keep.of_wr W114))
  have f118 : Fld Z h114 x c1_ "coder" "B" (.int 0) := ((f107.keep Kq111 nin0).other W114 (Or.inr (slot_ne (Or.inr (wd31 hw)) (Or.inr (wd33 hw)) (by decide) (t := .byte) (t' := (.array .byte)) (by decide) (by decide))))
  have ne_x_r_111 : x ≠ r_111 := Nat.ne_of_lt (Nat.lt_of_lt_of_le P0_.lt (Nat.le_trans (Keep.of_wr W106).1 fr_r_111))
  have f119 : Arv Z h114 r_111 kr_111 .byte (Int32.ofNat cs.length) (bys cs) (.int 0) := (r111_0.keep (Keep.of_wr W114) (ninS (Ne.symm ne_x_r_111) nin0))
  have s116 : LStr Z h114 x r_111 cs := ⟨f117, f115, f118, ⟨_, f119⟩, bb102, (by have := bl102; have := bm102; omega)⟩
  obtain ⟨fs, hr, hrun, hended, hW, hsame⟩ := X114.leave (v := none) (fun _ => rfl)
  refine ⟨_, _, pre0 _ ?_, hrun, hended, _, _, rfl, ?_, ⟨_, rfl⟩, hW, hsame.mono (by decide) (by decide)⟩
  · show SP pg ev below (s₁.setTop (mkF mi 0 #[.val (.ref x), .val (.ref b), .val .null, .unset, .unset] [])) _
    refine XS.aloadN X0.here hx rfl (hb hby dj6_0) rfl rfl ?_
    refine st101 _ ?_
    refine XS.aloadN X101.here hx rfl (hb hby dj6_4) rfl rfl ?_
    refine st103.trans ?_
    refine XS.astoreN X103.here hx rfl (hb hby dj6_8) rfl rfl (l' := #[.val (.ref x), .val (.ref b), .val .null, .val (.ref t), .unset]) rfl ?_
    refine XS.aloadN X103.here hx rfl (hb hby dj6_9) rfl rfl ?_
    refine st104.trans ?_
    refine XS.istore X104.here hx rfl (hb hby dj6_13) rfl (l' := #[.val (.ref x), .val (.ref b), .val .null, .val (.ref t), .val (.int (Int32.ofNat cs.length))]) rfl ?_
    refine XS.aloadN X104.here hx rfl (hb hby dj6_15) rfl rfl ?_
    refine st105.trans ?_
    refine XS.ifNo X105.here hx rfl (hb hby dj6_19) rfl ((if0 _ _).trans (feq (by decide : ¬ ((1 : Int32) = (0 : Int32)))).1) ?_
    refine XS.aloadN X105.here hx rfl (hb hby dj6_22) rfl rfl ?_
    refine XS.iconst X105.here hx rfl (hb hby dj6_23) ?_
    refine st106 _ ?_
    refine XS.aloadN X106.here hx rfl (hb hby dj6_27) rfl rfl ?_
    refine XS.aloadN X106.here hx rfl (hb hby dj6_28) rfl rfl ?_
    refine XS.iconst X106.here hx rfl (hb hby dj6_29) ?_
    refine XS.iload X106.here hx rfl (hb hby dj6_30) rfl ?_
    refine st111 _ ?_
    refine st114 _ ?_
    refine XS.goto X114.here hx rfl (pc0 := 38) (pc' := 97) rfl (hb hby dj6_38) (by decide) (by decide) ?_
    show SP pg ev below (T114.setTop (mkF mi 97 #[.val (.ref x), .val (.ref b), .val .null, .val (.ref t), .val (.int (Int32.ofNat cs.length))] [])) _
    exact X114.returnOut hx Bd.returns (hb hby dj6_97) hr
  · show Q_sia_full Z x b t cap cs zc hE n0 _ T114.heap _
    rw [e114]
    exact ⟨r_111, rfl, N114, ((((Keep.refl hE [x]).trans (Keep.of_wr W106) (allS (Or.inl (List.mem_of_getElem? (i := 0) rfl)) all0)).trans Kq111 all0).trans (Keep.of_wr W114) (allS (Or.inl (List.mem_of_getElem? (i := 0) rfl)) all0)), (Nat.le_trans (Keep.of_wr W106).1 fr_r_111), s116⟩
theorem ef_sis_full (mi : MethodId) (x : Addr) (b : Addr) : entryFrame mi #[(.ref x), (.ref b)] 2 = mkF mi 0 #[.val (.ref x), .val (.ref b)] [] := rfl
def Q_sis_full (Z : State) (x b t : Addr) (cap : Nat) (cs : List Int32) (zc : Int32) (hE : Heap) (n0 : Nat) (vv : Option Value) (hh : Heap) (LL : List Loc) : Prop := ∃ r : Addr, (vv = none) ∧ (Fr n0 LL) ∧ (Keep hE hh [x]) ∧ (hE.size ≤ r) ∧ (LStr Z hh x r cs)
theorem rm_sis_full (hw : HW a0 Z) (ws : List Cond) (x b t : Addr) (cap : Nat) (cs : List Int32) (zc : Int32) (hE : Heap) (n0 : Nat) (O : Old Z n0 hE) (P0_ : Exa Z hE x c1_) (P1_ : Fld Z hE x c1_ "value" "[B" .null) (P2_ : Fld Z hE x c1_ "coder" "B" (.int 0)) (P3_ : SBl Z hE b t cap cs) (D0_ : Sta Z Z.heap c1_ c6_ "Z" (.int zc)) (g_x : n0 ≤ x) (ne_b_x : b ≠ x) (ne_t_x : t ≠ x) (hlc : cs.length = cap) (hzc : ¬ (zc = (0 : Int32))) :
    MF la Z hE mn23 jc22 2 none ws (rr 3 1 120 45) #[(.ref x), (.ref b)] (Q_sis_full Z x b t cap cs zc hE n0) := by
  refine MetFree.of_bodySF (plainFor_of_name pn_java_lang_String) hisR ?_
  intro pg ev sb mi gs below me cd s₁ Bd hml0 hPt hKt
  obtain ⟨rfl, hZ, hh⟩ := hPt
  have hx := Bd.exec
  have hby := Bd.bytes
  have hml : cd.maxLocals = 2 := hml0
  have hown : sb.vm.findClass c1_ = some mi.cls := findClass_of_methodNamed Bd.named
  have X0 : Stand pg la ev (rr 3 1 120 45) sb mi #[(.ref x), (.ref b)] below me cd s₁ [] 0 0 := Stand.of_body Bd
  have eE : s₁.heap = hE := by rw [← hh, Bd.state]; rfl
  have N0 := Fr.nil n0
  have pre0 : ∀ tt, SP pg ev below (s₁.setTop (mkF mi 0 #[.val (.ref x), .val (.ref b)] [])) tt → SP pg ev below (s₁.setTop (entryFrame mi #[(.ref x), (.ref b)] 2)) tt := fun tt kk => castTop (ef_sis_full mi x b) kk
  obtain ⟨v101, _, ⟨T101, L101, k101, n101⟩, -, X101, ⟨Lc101, hQ101, l101, y101, z101⟩, st101⟩ := X0.specialBack hx (y := mn22) rfl hown (mvT hZ (wd205 hw)) (mvT hZ (wd206 hw)) (mvT hZ (wd207 hw)) (by decide) (backOf (W := 0) (rm_sia_full la Z a0 hw [] x b t cap cs zc hE n0 O P0_ P1_ P2_ P3_ D0_ g_x ne_b_x ne_t_x (hlc : cs.length = cap) (hzc : ¬ (zc = (0 : Int32)))) hZ (wd207 hw) (wd6 hw) (by decide) (by decide)) (g := (mkF mi 3 #[.val (.ref x), .val (.ref b)] [.null, (.ref b), (.ref x)])) rfl (by rw [hml]; rfl) (Steps.refl _) (a := x) (argsL := [(.ref b), .null]) (rest := []) (lenOf pd_15 rfl) rfl (Nat.le_of_ble_eq_true rfl) (hb hby dj22_3) (fun _ _ => ⟨rfl, eE, (by decide : 0 + 1 ≤ _), (by decide : 0 + 120 ≤ _)⟩)
  dsimp only [Pt.U, Pt.locs, Pt.cells, Pt.slots] at X101 l101 y101 z101 st101 hQ101
  subst l101 y101 z101
  obtain ⟨r_101, rfl, Nq101, Kq101, fr_r_101, r101_0⟩ := hQ101
  have N101 := Fr.app N0 Nq101
  obtain ⟨fs, hr, hrun, hended, hW, hsame⟩ := X101.leave (v := none) (fun _ => rfl)
  refine ⟨_, _, pre0 _ ?_, hrun, hended, _, _, rfl, ?_, ⟨_, rfl⟩, hW, hsame.mono (by decide) (by decide)⟩
  · show SP pg ev below (s₁.setTop (mkF mi 0 #[.val (.ref x), .val (.ref b)] [])) _
    refine XS.aloadN X0.here hx rfl (hb hby dj22_0) rfl rfl ?_
    refine XS.aloadN X0.here hx rfl (hb hby dj22_1) rfl rfl ?_
    refine XS.aconstNull X0.here hx rfl (hb hby dj22_2) ?_
    refine st101.trans ?_
    show SP pg ev below (T101.setTop (mkF mi 6 #[.val (.ref x), .val (.ref b)] [])) _
    exact X101.returnOut hx Bd.returns (hb hby dj22_6) hr
  · show Q_sis_full Z x b t cap cs zc hE n0 _ T101.heap _
    exact ⟨r_101, rfl, N101, ((Keep.refl hE [x]).trans Kq101 (allS (Or.inl (List.mem_of_getElem? (i := 0) rfl)) all0)), fr_r_101, r101_0⟩
theorem ef_sbt_full (mi : MethodId) (b : Addr) : entryFrame mi #[(.ref b)] 1 = mkF mi 0 #[.val (.ref b)] [] := rfl
def Q_sbt_full (Z : State) (b t : Addr) (cap : Nat) (cs : List Int32) (zc : Int32) (hE : Heap) (n0 : Nat) (vv : Option Value) (hh : Heap) (LL : List Loc) : Prop := ∃ x : Addr, ∃ r : Addr, (vv = some (.ref x)) ∧ (Fr n0 LL) ∧ (Keep hE hh []) ∧ (hE.size ≤ x) ∧ (hE.size ≤ r) ∧ (LStr Z hh x r cs)
theorem rm_sbt_full (hw : HW a0 Z) (ws : List Cond) (b t : Addr) (cap : Nat) (cs : List Int32) (zc : Int32) (hE : Heap) (n0 : Nat) (O : Old Z n0 hE) (P0_ : SBl Z hE b t cap cs) (D0_ : Sta Z Z.heap c1_ c6_ "Z" (.int zc)) (hlc : cs.length = cap) (hzc : ¬ (zc = (0 : Int32))) :
    MF la Z hE mn24 jc23 1 (some (.object c1_)) ws (rr 4 2 124 59) #[(.ref b)] (Q_sbt_full Z b t cap cs zc hE n0) := by
  refine MetFree.of_bodySF (plainFor_of_name pn_java_lang_StringBuilder) hisR ?_
  intro pg ev sb mi gs below me cd s₁ Bd hml0 hPt hKt
  obtain ⟨rfl, hZ, hh⟩ := hPt
  have hx := Bd.exec
  have hby := Bd.bytes
  have hml : cd.maxLocals = 1 := hml0
  have hown : sb.vm.findClass c3_ = some mi.cls := findClass_of_methodNamed Bd.named
  have X0 : Stand pg la ev (rr 4 2 124 59) sb mi #[(.ref b)] below me cd s₁ [] 0 0 := Stand.of_body Bd
  have eE : s₁.heap = hE := by rw [← hh, Bd.state]; rfl
  have N0 := Fr.nil n0
  have pre0 : ∀ tt, SP pg ev below (s₁.setTop (mkF mi 0 #[.val (.ref b)] [])) tt → SP pg ev below (s₁.setTop (entryFrame mi #[(.ref b)] 1)) tt := fun tt kk => castTop (ef_sbt_full mi b) kk
  obtain ⟨T101, h101, X101, e101, E101, A101, D101, -, st101⟩ := newO X0 hx hZ hown (wd201 hw) (wd5 hw) (wd6 hw) eE (g := (mkF mi 0 #[.val (.ref b)] [])) rfl (hb hby dj23_0) (by decide) (by decide)
  obtain ⟨b101, q101⟩ : ∃ z, z = hE.size := ⟨_, rfl⟩
  rw [← q101] at A101 D101 st101
  have f102 : Fld Z h101 b101 c1_ "coder" "B" (.int 0) := D101 (Or.inr (wd31 hw)) (ty := .byte) (by decide)
  have f103 : Fld Z h101 b101 c1_ "value" "[B" .null := D101 (Or.inr (wd33 hw)) (ty := (.array .byte)) (by decide)
  have O104 : Old Z n0 h101 := (O.ext E101)
  have f105 : SBl Z h101 b t cap cs := (P0_.ext E101)
  have g_b101 : n0 ≤ b101 := Nat.le_trans (Nat.le_trans (Nat.le_of_eq O.1.symm) O.2.1) (Nat.le_of_eq q101.symm)
  have ne_b_b101 : b ≠ b101 := Nat.ne_of_lt (Nat.lt_of_lt_of_le P0_.lt (Nat.le_trans (Nat.le_refl _) (Nat.le_of_eq q101.symm)))
  have ne_t_b101 : t ≠ b101 := Nat.ne_of_lt (Nat.lt_of_lt_of_le P0_.ltt (Nat.le_trans (Nat.le_refl _) (Nat.le_of_eq q101.symm)))
  obtain ⟨v106, _, ⟨T106, L106, k106, n106⟩, -, X106, ⟨Lc106, hQ106, l106, y106, z106⟩, st106⟩ := X101.specialBack hx (y := mn23) rfl hown (mvT hZ (wd202 hw)) (mvT hZ (wd203 hw)) (mvT hZ (wd204 hw)) (by decide) (backOf (W := 1) (rm_sis_full la Z a0 hw [] b101 b t cap cs zc h101 n0 O104 A101 f103 f102 f105 D0_ g_b101 ne_b_b101 ne_t_b101 (hlc : cs.length = cap) (hzc : ¬ (zc = (0 : Int32)))) hZ (wd204 hw) (wd6 hw) (by decide) (by decide)) (g := (mkF mi 5 #[.val (.ref b)] [(.ref b), (.ref b101), (.ref b101)])) rfl (by rw [hml]; rfl) (Steps.refl _) (a := b101) (argsL := [(.ref b)]) (rest := [(.ref b101)]) (lenOf pd_16 rfl) rfl (Nat.le_of_ble_eq_true rfl) (hb hby dj23_5) (fun _ _ => ⟨rfl, e101, (by decide : 1 + 1 ≤ _), (by decide : 4 + 120 ≤ _)⟩)
  dsimp only [Pt.U, Pt.locs, Pt.cells, Pt.slots] at X106 l106 y106 z106 st106 hQ106
  subst l106 y106 z106
  obtain ⟨r_106, rfl, Nq106, Kq106, fr_r_106, r106_0⟩ := hQ106
  have N106 := Fr.app N0 Nq106
  obtain ⟨fs, hr, hrun, hended, hW, hsame⟩ := X106.leave (v := some (.ref b101)) (fun hq => by rw [Bd.returns] at hq; cases hq)
  refine ⟨_, _, pre0 _ ?_, hrun, hended, _, _, rfl, ?_, ⟨_, rfl⟩, hW, hsame.mono (by decide) (by decide)⟩
  · show SP pg ev below (s₁.setTop (mkF mi 0 #[.val (.ref b)] [])) _
    refine st101 _ ?_
    refine XS.dup X101.here hx rfl (hb hby dj23_3) rfl rfl ?_
    refine XS.aloadN X101.here hx rfl (hb hby dj23_4) rfl rfl ?_
    refine st106.trans ?_
    show SP pg ev below (T106.setTop (mkF mi 8 #[.val (.ref b)] [(.ref b101)])) _
    jvm_step X106.here [X106.here.top, hx, (hb hby dj23_8), X106.method', Bd.returns, Value.isRef, FieldType.isReference]
    first | (intro acts; rw [hr _ acts rfl rfl rfl]) | rw [hr _ _ rfl rfl rfl]
    exact Steps.refl _
  · show Q_sbt_full Z b t cap cs zc hE n0 _ T106.heap _
    exact ⟨b101, r_106, rfl, N106, (((Keep.refl hE []).ext E101).trans Kq106 (allS (Or.inr (Nat.le_of_eq q101.symm)) all0)), (Nat.le_of_eq q101.symm), (Nat.le_trans E101.1 fr_r_106), r106_0⟩
def Q_nsc (Z : State) (x b : Addr) (kC : ClassId) (cs : List Int32) (zc : Int32) (hE : Heap) (n0 : Nat) (vv : Option Value) (hh : Heap) (LL : List Loc) : Prop := ∃ t : Addr, (vv = none) ∧ (Fr n0 LL) ∧ (Keep hE hh [x]) ∧ (hE.size ≤ t) ∧ (LStr Z hh x t cs)

theorem own_nsw {a0 : Array Value} {Z : State} (hw : HW a0 Z) : ∀ d ∈ StrChars.Road.words, d.before a0 Z = true := fun d hd => hw d ((by decide +kernel : ∀ d ∈ StrChars.Road.words, d ∈ tables_1) d hd)
theorem own_nsc {p : Program} {l : Launch} {e : Env} {R : Room} {s : State} {args : Array Value} {below : List Frame} {len W : Nat} {Z : State} {a0 : Array Value} (hZ : Z.Warmed39 s.vm) (hw : HW a0 Z) (wi : (Jvm.Cond.instantiable c1_ 4).before a0 Z = true)
    (x b : Addr) (kC : ClassId) (cs : List Int32) (zc : Int32) (h : Heap) (n0 : Nat) (O : Old Z n0 h) (E : Exa Z h x c1_) (V : Fld Z h x c1_ "value" "[B" .null) (C : Fld Z h x c1_ "coder" "B" (.int 0)) (K : Arv Z h b kC .char (Int32.ofNat cs.length) (cs.map Value.int) (.int 0)) (S : Sta Z Z.heap c1_ c6_ "Z" (.int zc))
    (g_x : n0 ≤ x) (hne : 0 < cs.length) (hl : cs.length ≤ 4000) (hp : ∀ c ∈ cs, ¬ c < 0 ∧ ¬ (255 : Int32) < c) (hzc : ¬ (zc = (0 : Int32))) (n : Nat) (hn : cs.length = n) (hfr : 4 ≤ R.frames) (hlo : W + 65 ≤ R.locals) :
    Back l R p e below s args (⟨c1_, "<init>", "([C)V"⟩ : MethodName) len W (fun P a => a = #[.ref x, .ref b] ∧ P.U.heap = h ∧ P.cells + 1 ≤ R.cells ∧ P.slots + n ≤ R.slots)
      (fun P _ v B => ∃ L, Q_nsc Z x b kC cs zc h n0 v B.U.heap L ∧ B.locs = P.locs ++ L ∧ B.cells = P.cells + 1 ∧ B.slots = P.slots + n) := by
  subst hn
  refine Back.mono (StrChars.Road.backV (n0 := n0) (n := cs.length) (bs := cs.map fun c => c.toInt8.toInt32) hZ (own_nsw hw) wi g_x (by have := O.1; have := O.2.1; omega) E V C K (S.ext O.2) hzc rfl rfl hne hl hp rfl hfr hlo) (fun P a h => h) (fun P a v B _ hq => ?_)
  obtain ⟨L, ⟨q1, q2, q3, q4, q5, t, kb, q6, q7, q8, q9, q10⟩, r⟩ := hq
  exact ⟨L, ⟨t, q1, q2, q3, q7, ⟨q4, q9, q5, ⟨kb, by rw [List.map_map] at q10; exact q10⟩, hp, hl⟩⟩, r⟩

theorem dj41_0 : decode jc41 0 = .ok (.iload_n 0, 1) := by decide +kernel
theorem dj41_1 : decode jc41 1 = .ok (.sipush 255, 3) := by decide +kernel
theorem dj41_4 : decode jc41 4 = .ok (.iand, 1) := by decide +kernel
theorem dj41_5 : decode jc41 5 = .ok (.istore_n 1, 1) := by decide +kernel
theorem dj41_6 : decode jc41 6 = .ok (.iload_n 1, 1) := by decide +kernel
theorem dj41_7 : decode jc41 7 = .ok (.bipush 33, 2) := by decide +kernel
theorem dj41_9 : decode jc41 9 = .ok (.if_icmp .eq 9, 3) := by decide +kernel
theorem dj41_12 : decode jc41 12 = .ok (.iload_n 1, 1) := by decide +kernel
theorem dj41_13 : decode jc41 13 = .ok (.bipush 47, 2) := by decide +kernel
theorem dj41_15 : decode jc41 15 = .ok (.if_icmp .ne 7, 3) := by decide +kernel
theorem dj41_18 : decode jc41 18 = .ok (.iload_n 1, 1) := by decide +kernel
theorem dj41_19 : decode jc41 19 = .ok (.iconst 1, 1) := by decide +kernel
theorem dj41_20 : decode jc41 20 = .ok (.iadd, 1) := by decide +kernel
theorem dj41_21 : decode jc41 21 = .ok (.istore_n 1, 1) := by decide +kernel
theorem dj41_22 : decode jc41 22 = .ok (.iload_n 1, 1) := by decide +kernel
theorem dj41_23 : decode jc41 23 = .ok (.i2c, 1) := by decide +kernel
theorem dj41_24 : decode jc41 24 = .ok (.ireturn, 1) := by decide +kernel
theorem pn_com_example_beanloft_beanloft_naming_GlobalNameInModulePinLaw : plainName "com/example/beanloft/beanloft/naming/GlobalNameInModulePinLaw" = true := by first | (simp [plainName, overriddenIn]; done) | decide +kernel
theorem ef_chc (mi : MethodId) (q : Int32) : entryFrame mi #[(.int q)] 2 = mkF mi 0 #[.val (.int q), .unset] [] := rfl
def Q_chc (Z : State) (q : Int32) (hE : Heap) (n0 : Nat) (vv : Option Value) (hh : Heap) (LL : List Loc) : Prop := (vv = some (.int (chF q))) ∧ (Fr n0 LL) ∧ (hh = hE)
theorem rm_chc (hw : HW a0 Z) (ws : List Cond) (q : Int32) (hE : Heap) (n0 : Nat) (O : Old Z n0 hE) :
    MF la Z hE mn25 jc41 2 (some .char) ws (rr 0 0 0 0) #[(.int q)] (Q_chc Z q hE n0) := by
  refine MetFree.of_bodySF (plainFor_of_name pn_com_example_beanloft_beanloft_naming_GlobalNameInModulePinLaw) hisR ?_
  intro pg ev sb mi gs below me cd s₁ Bd hml0 hPt hKt
  obtain ⟨rfl, hZ, hh⟩ := hPt
  have hx := Bd.exec
  have hby := Bd.bytes
  have hml : cd.maxLocals = 2 := hml0
  have hown : sb.vm.findClass c5_ = some mi.cls := findClass_of_methodNamed Bd.named
  have X0 : Stand pg la ev (rr 0 0 0 0) sb mi #[(.int q)] below me cd s₁ [] 0 0 := Stand.of_body Bd
  have eE : s₁.heap = hE := by rw [← hh, Bd.state]; rfl
  have N0 := Fr.nil n0
  have pre0 : ∀ tt, SP pg ev below (s₁.setTop (mkF mi 0 #[.val (.int q), .unset] [])) tt → SP pg ev below (s₁.setTop (entryFrame mi #[(.int q)] 2)) tt := fun tt kk => castTop (ef_chc mi q) kk
  have pre102 : ∀ tt, SP pg ev below (s₁.setTop (mkF mi 9 #[.val (.int q), .val (.int (q &&& (255 : Int32)))] [(.int 33), (.int (q &&& (255 : Int32)))])) tt → SP pg ev below (s₁.setTop (entryFrame mi #[(.int q)] 2)) tt := fun tt kk => pre0 _ (by
    show SP pg ev below (s₁.setTop (mkF mi 0 #[.val (.int q), .unset] [])) _
    refine XS.iloadN X0.here hx rfl (hb hby dj41_0) rfl ?_
    refine XS.sipush X0.here hx rfl (hb hby dj41_1) ?_
    refine XS.iand X0.here hx rfl (hb hby dj41_4) rfl ?_
    refine XS.istoreN X0.here hx rfl (hb hby dj41_5) rfl (l' := #[.val (.int q), .val (.int (q &&& (255 : Int32)))]) rfl ?_
    refine XS.iloadN X0.here hx rfl (hb hby dj41_6) rfl ?_
    refine XS.bipush X0.here hx rfl (hb hby dj41_7) ?_
    exact kk)
  by_cases hc101 : (q &&& (255 : Int32)) = (33 : Int32)
  · obtain ⟨fs, hr, hrun, hended, hW, hsame⟩ := X0.leave (v := some (.int (nar .char (((q &&& (255 : Int32)) + (1 : Int32)).toUInt32.toUInt16.toUInt32.toInt32)))) (fun hq => by rw [Bd.returns] at hq; cases hq)
    refine ⟨_, _, pre102 _ ?_, hrun, hended, _, _, rfl, ?_, ⟨_, rfl⟩, hW, hsame.mono (by decide) (by decide)⟩
    · show SP pg ev below (s₁.setTop (mkF mi 9 #[.val (.int q), .val (.int (q &&& (255 : Int32)))] [(.int 33), (.int (q &&& (255 : Int32)))])) _
      refine XS.icmpYes X0.here hx rfl (pc0 := 9) (pc' := 18) rfl (hb hby dj41_9) rfl (teq hc101).1 (by decide) (by decide) ?_
      refine XS.iloadN X0.here hx rfl (hb hby dj41_18) rfl ?_
      refine XS.iconst X0.here hx rfl (hb hby dj41_19) ?_
      refine XS.iadd X0.here hx rfl (hb hby dj41_20) rfl ?_
      refine XS.istoreN X0.here hx rfl (hb hby dj41_21) rfl (l' := #[.val (.int q), .val (.int ((q &&& (255 : Int32)) + (1 : Int32)))]) rfl ?_
      refine XS.iloadN X0.here hx rfl (hb hby dj41_22) rfl ?_
      refine XS.i2c X0.here hx rfl (hb hby dj41_23) rfl ?_
      show SP pg ev below (s₁.setTop (mkF mi 24 #[.val (.int q), .val (.int ((q &&& (255 : Int32)) + (1 : Int32)))] [(.int (((q &&& (255 : Int32)) + (1 : Int32)).toUInt32.toUInt16.toUInt32.toInt32))])) _
      exact retN X0 hx (t := .char) Bd.returns (by simp) (hb hby dj41_24) hr
    · show Q_chc Z q hE n0 _ s₁.heap _
      rw [eE]
      exact ⟨(congrArg (fun z => some (Value.int z)) (own_ch33 (by rw [hc101]; decide) hc101)), N0, rfl⟩
  · have pre104 : ∀ tt, SP pg ev below (s₁.setTop (mkF mi 15 #[.val (.int q), .val (.int (q &&& (255 : Int32)))] [(.int 47), (.int (q &&& (255 : Int32)))])) tt → SP pg ev below (s₁.setTop (entryFrame mi #[(.int q)] 2)) tt := fun tt kk => pre102 _ (by
      show SP pg ev below (s₁.setTop (mkF mi 9 #[.val (.int q), .val (.int (q &&& (255 : Int32)))] [(.int 33), (.int (q &&& (255 : Int32)))])) _
      refine XS.icmpNo X0.here hx rfl (hb hby dj41_9) rfl (feq hc101).1 ?_
      refine XS.iloadN X0.here hx rfl (hb hby dj41_12) rfl ?_
      refine XS.bipush X0.here hx rfl (hb hby dj41_13) ?_
      exact kk)
    by_cases hc103 : (q &&& (255 : Int32)) = (47 : Int32)
    · obtain ⟨fs, hr, hrun, hended, hW, hsame⟩ := X0.leave (v := some (.int (nar .char (((q &&& (255 : Int32)) + (1 : Int32)).toUInt32.toUInt16.toUInt32.toInt32)))) (fun hq => by rw [Bd.returns] at hq; cases hq)
      refine ⟨_, _, pre104 _ ?_, hrun, hended, _, _, rfl, ?_, ⟨_, rfl⟩, hW, hsame.mono (by decide) (by decide)⟩
      · show SP pg ev below (s₁.setTop (mkF mi 15 #[.val (.int q), .val (.int (q &&& (255 : Int32)))] [(.int 47), (.int (q &&& (255 : Int32)))])) _
        refine XS.icmpNo X0.here hx rfl (hb hby dj41_15) rfl (teq hc103).2 ?_
        refine XS.iloadN X0.here hx rfl (hb hby dj41_18) rfl ?_
        refine XS.iconst X0.here hx rfl (hb hby dj41_19) ?_
        refine XS.iadd X0.here hx rfl (hb hby dj41_20) rfl ?_
        refine XS.istoreN X0.here hx rfl (hb hby dj41_21) rfl (l' := #[.val (.int q), .val (.int ((q &&& (255 : Int32)) + (1 : Int32)))]) rfl ?_
        refine XS.iloadN X0.here hx rfl (hb hby dj41_22) rfl ?_
        refine XS.i2c X0.here hx rfl (hb hby dj41_23) rfl ?_
        show SP pg ev below (s₁.setTop (mkF mi 24 #[.val (.int q), .val (.int ((q &&& (255 : Int32)) + (1 : Int32)))] [(.int (((q &&& (255 : Int32)) + (1 : Int32)).toUInt32.toUInt16.toUInt32.toInt32))])) _
        exact retN X0 hx (t := .char) Bd.returns (by simp) (hb hby dj41_24) hr
      · show Q_chc Z q hE n0 _ s₁.heap _
        rw [eE]
        exact ⟨(congrArg (fun z => some (Value.int z)) (own_ch47 hc103)), N0, rfl⟩
    · obtain ⟨fs, hr, hrun, hended, hW, hsame⟩ := X0.leave (v := some (.int (nar .char ((q &&& (255 : Int32)).toUInt32.toUInt16.toUInt32.toInt32)))) (fun hq => by rw [Bd.returns] at hq; cases hq)
      refine ⟨_, _, pre104 _ ?_, hrun, hended, _, _, rfl, ?_, ⟨_, rfl⟩, hW, hsame.mono (by decide) (by decide)⟩
      · show SP pg ev below (s₁.setTop (mkF mi 15 #[.val (.int q), .val (.int (q &&& (255 : Int32)))] [(.int 47), (.int (q &&& (255 : Int32)))])) _
        refine XS.icmpYes X0.here hx rfl (pc0 := 15) (pc' := 22) rfl (hb hby dj41_15) rfl (feq hc103).2 (by decide) (by decide) ?_
        refine XS.iloadN X0.here hx rfl (hb hby dj41_22) rfl ?_
        refine XS.i2c X0.here hx rfl (hb hby dj41_23) rfl ?_
        show SP pg ev below (s₁.setTop (mkF mi 24 #[.val (.int q), .val (.int (q &&& (255 : Int32)))] [(.int ((q &&& (255 : Int32)).toUInt32.toUInt16.toUInt32.toInt32))])) _
        exact retN X0 hx (t := .char) Bd.returns (by simp) (hb hby dj41_24) hr
      · show Q_chc Z q hE n0 _ s₁.heap _
        rw [eE]
        exact ⟨(congrArg (fun z => some (Value.int z)) (own_ch0 hc103 hc101)), N0, rfl⟩
theorem dj7_0 : decode jc7 0 = .ok (.aload_n 0, 1) := by decide +kernel
theorem dj7_1 : decode jc7 1 = .ok (.invokespecial 1, 3) := by decide +kernel
theorem dj7_4 : decode jc7 4 = .ok (.aload_n 0, 1) := by decide +kernel
theorem dj7_5 : decode jc7 5 = .ok (.aload_n 1, 1) := by decide +kernel
theorem dj7_6 : decode jc7 6 = .ok (.putfield 9, 3) := by decide +kernel
theorem dj7_9 : decode jc7 9 = .ok (.aload_n 0, 1) := by decide +kernel
theorem dj7_10 : decode jc7 10 = .ok (.iload_n 2, 1) := by decide +kernel
theorem dj7_11 : decode jc7 11 = .ok (.putfield 15, 3) := by decide +kernel
theorem dj7_14 : decode jc7 14 = .ok (.return_, 1) := by decide +kernel
theorem ef_sbb (mi : MethodId) (a : Addr) (t : Addr) : entryFrame mi #[(.ref a), (.ref t), (.int 0)] 3 = mkF mi 0 #[.val (.ref a), .val (.ref t), .val (.int 0)] [] := rfl
def Q_sbb (Z : State) (a t : Addr) (hE : Heap) (n0 : Nat) (vv : Option Value) (hh : Heap) (LL : List Loc) : Prop := (vv = none) ∧ (Fr n0 LL) ∧ (Keep hE hh [a]) ∧ (Exa Z hh a c1_) ∧ (Fld Z hh a c1_ "value" "[B" (.ref t)) ∧ (Fld Z hh a c1_ "coder" "B" (.int 0))
theorem rm_sbb (hw : HW a0 Z) (ws : List Cond) (a t : Addr) (hE : Heap) (n0 : Nat) (O : Old Z n0 hE) (P0_ : Exa Z hE a c1_) (P1_ : Fld Z hE a c1_ "value" "[B" .null) (P2_ : Fld Z hE a c1_ "coder" "B" (.int 0)) (g_a : n0 ≤ a) :
    MF la Z hE mn26 jc7 3 none ws (rr 1 0 0 12) #[(.ref a), (.ref t), (.int 0)] (Q_sbb Z a t hE n0) := by
  refine MetFree.of_bodySF (plainFor_of_name pn_java_lang_String) hisR ?_
  intro pg ev sb mi gs below me cd s₁ Bd hml0 hPt hKt
  obtain ⟨rfl, hZ, hh⟩ := hPt
  have hx := Bd.exec
  have hby := Bd.bytes
  have hml : cd.maxLocals = 3 := hml0
  have hown : sb.vm.findClass c1_ = some mi.cls := findClass_of_methodNamed Bd.named
  have hnm := (name_of_methodNamed Bd.named Bd.method).1
  have X0 : Stand pg la ev (rr 1 0 0 12) sb mi #[(.ref a), (.ref t), (.int 0)] below me cd s₁ [] 0 0 := Stand.of_body Bd
  have eE : s₁.heap = hE := by rw [← hh, Bd.state]; rfl
  have N0 := Fr.nil n0
  have pre0 : ∀ tt, SP pg ev below (s₁.setTop (mkF mi 0 #[.val (.ref a), .val (.ref t), .val (.int 0)] [])) tt → SP pg ev below (s₁.setTop (entryFrame mi #[(.ref a), (.ref t), (.int 0)] 3)) tt := fun tt kk => castTop (ef_sbb mi a t) kk
  obtain ⟨T101, X101, e101, st101⟩ := initO X0 hx hZ hown (wd15 hw) (wd16 hw) (wd17 hw) eE (g := (mkF mi 1 #[.val (.ref a), .val (.ref t), .val (.int 0)] [(.ref a)])) rfl (by rw [hml]; rfl) rfl (hb hby dj7_1) (by decide) (W := 0) (Nat.le_of_ble_eq_true rfl) (by decide)
  obtain ⟨T102, h102, X102, e102, W102, st102⟩ := putF X101 hx hZ hown (host := "") (Or.inl (wd32 hw)) Via.refl e101 P1_ P0_ (Or.inr ⟨(wd33 hw), rfl, hnm⟩) (wd5 hw) (ty := (.array .byte)) (by decide) rfl rfl (g := (mkF mi 6 #[.val (.ref a), .val (.ref t), .val (.int 0)] [(.ref t), (.ref a)])) rfl rfl (hb hby dj7_6)
  have N102 := Fr.snoc X102 N0 g_a
  have f103 : Fld Z h102 a c1_ "value" "[B" (.ref t) := P1_.same W102
  have f104 : Exa Z h102 a c1_ := (P0_.keep (Keep.of_wr W102))
  have f105 : Fld Z h102 a c1_ "coder" "B" (.int 0) := (P2_.other W102 (Or.inr (slot_ne (Or.inr (wd31 hw)) (Or.inr (wd33 hw)) (by decide) (t := .byte) (t' := (.array .byte)) (by decide) (by decide))))
  obtain ⟨T106, h106, X106, e106, W106, st106⟩ := putFN X102 hx hZ hown (wd30 hw) Via.refl e102 f105 f104 (Or.inr ⟨(wd31 hw), rfl, hnm⟩) (wd5 hw) (ty := .byte) (v' := (.int 0)) (by decide) rfl rfl (g := (mkF mi 11 #[.val (.ref a), .val (.ref t), .val (.int 0)] [(.int 0), (.ref a)])) rfl rfl (hb hby dj7_11)
  have N106 := Fr.snoc X106 N102 g_a
  have f107 : Fld Z h106 a c1_ "coder" "B" (.int 0) := f105.same W106
  have f108 : Exa Z h106 a c1_ := (f104.keep (Keep.of_wr W106))
  have f109 : Fld Z h106 a c1_ "value" "[B" (.ref t) := (f103.other W106 (Or.inr (slot_ne (Or.inr (wd33 hw)) (Or.inr (wd31 hw)) (by decide) (t := (.array .byte)) (t' := .byte) (by decide) (by decide))))
  obtain ⟨fs, hr, hrun, hended, hW, hsame⟩ := X106.leave (v := none) (fun _ => rfl)
  refine ⟨_, _, pre0 _ ?_, hrun, hended, _, _, rfl, ?_, ⟨_, rfl⟩, hW, hsame.mono (by decide) (by decide)⟩
  · show SP pg ev below (s₁.setTop (mkF mi 0 #[.val (.ref a), .val (.ref t), .val (.int 0)] [])) _
    refine XS.aloadN X0.here hx rfl (hb hby dj7_0) rfl rfl ?_
    refine st101 _ ?_
    refine XS.aloadN X101.here hx rfl (hb hby dj7_4) rfl rfl ?_
    refine XS.aloadN X101.here hx rfl (hb hby dj7_5) rfl rfl ?_
    refine st102 _ ?_
    refine XS.aloadN X102.here hx rfl (hb hby dj7_9) rfl rfl ?_
    refine XS.iloadN X102.here hx rfl (hb hby dj7_10) rfl ?_
    refine st106 _ ?_
    show SP pg ev below (T106.setTop (mkF mi 14 #[.val (.ref a), .val (.ref t), .val (.int 0)] [])) _
    exact X106.returnOut hx Bd.returns (hb hby dj7_14) hr
  · show Q_sbb Z a t hE n0 _ T106.heap _
    rw [e106]
    exact ⟨rfl, N106, (((Keep.refl hE [a]).trans (Keep.of_wr W102) (allS (Or.inl (List.mem_of_getElem? (i := 0) rfl)) all0)).trans (Keep.of_wr W106) (allS (Or.inl (List.mem_of_getElem? (i := 0) rfl)) all0)), f108, f109, f107⟩
theorem dj35_0 : decode jc35 0 = .ok (.iload_n 0, 1) := by decide +kernel
theorem dj35_1 : decode jc35 1 = .ok (.sipush 255, 3) := by decide +kernel
theorem dj35_4 : decode jc35 4 = .ok (.if_icmp .gt 7, 3) := by decide +kernel
theorem dj35_7 : decode jc35 7 = .ok (.iconst 1, 1) := by decide +kernel
theorem dj35_8 : decode jc35 8 = .ok (.goto 4, 3) := by decide +kernel
theorem dj35_12 : decode jc35 12 = .ok (.ireturn, 1) := by decide +kernel
theorem pn_java_lang_StringLatin1 : plainName "java/lang/StringLatin1" = true := by first | (simp [plainName, overriddenIn]; done) | decide +kernel
theorem ef_cenc (mi : MethodId) (c : Int32) : entryFrame mi #[(.int c)] 1 = mkF mi 0 #[.val (.int c)] [] := rfl
def Q_cenc (Z : State) (c : Int32) (hE : Heap) (n0 : Nat) (vv : Option Value) (hh : Heap) (LL : List Loc) : Prop := (vv = some (.int 1)) ∧ (Fr n0 LL) ∧ (hh = hE)
theorem rm_cenc (hw : HW a0 Z) (ws : List Cond) (c : Int32) (hE : Heap) (n0 : Nat) (O : Old Z n0 hE) (hbb : ¬ ((255 : Int32) < c)) :
    MF la Z hE mn27 jc35 1 (some .boolean) ws (rr 0 0 0 0) #[(.int c)] (Q_cenc Z c hE n0) := by
  refine MetFree.of_bodySF (plainFor_of_name pn_java_lang_StringLatin1) hisR ?_
  intro pg ev sb mi gs below me cd s₁ Bd hml0 hPt hKt
  obtain ⟨rfl, hZ, hh⟩ := hPt
  have hx := Bd.exec
  have hby := Bd.bytes
  have hml : cd.maxLocals = 1 := hml0
  have hown : sb.vm.findClass c9_ = some mi.cls := findClass_of_methodNamed Bd.named
  have X0 : Stand pg la ev (rr 0 0 0 0) sb mi #[(.int c)] below me cd s₁ [] 0 0 := Stand.of_body Bd
  have eE : s₁.heap = hE := by rw [← hh, Bd.state]; rfl
  have N0 := Fr.nil n0
  have pre0 : ∀ tt, SP pg ev below (s₁.setTop (mkF mi 0 #[.val (.int c)] [])) tt → SP pg ev below (s₁.setTop (entryFrame mi #[(.int c)] 1)) tt := fun tt kk => castTop (ef_cenc mi c) kk
  obtain ⟨fs, hr, hrun, hended, hW, hsame⟩ := X0.leave (v := some (.int 1)) (fun hq => by rw [Bd.returns] at hq; cases hq)
  refine ⟨_, _, pre0 _ ?_, hrun, hended, _, _, rfl, ?_, ⟨_, rfl⟩, hW, hsame.mono (by decide) (by decide)⟩
  · show SP pg ev below (s₁.setTop (mkF mi 0 #[.val (.int c)] [])) _
    refine XS.iloadN X0.here hx rfl (hb hby dj35_0) rfl ?_
    refine XS.sipush X0.here hx rfl (hb hby dj35_1) ?_
    refine XS.icmpNo X0.here hx rfl (hb hby dj35_4) rfl (flt hbb).2.2.1 ?_
    refine XS.iconst X0.here hx rfl (hb hby dj35_7) ?_
    refine XS.goto X0.here hx rfl (pc0 := 8) (pc' := 12) rfl (hb hby dj35_8) (by decide) (by decide) ?_
    show SP pg ev below (s₁.setTop (mkF mi 12 #[.val (.int c)] [(.int 1)])) _
    exact retN X0 hx (t := .boolean) Bd.returns (by simp) (hb hby dj35_12) hr
  · show Q_cenc Z c hE n0 _ s₁.heap _
    rw [eE]
    exact ⟨rfl, N0, rfl⟩
theorem dj24_0 : decode jc24 0 = .ok (.iconst 1, 1) := by decide +kernel
theorem dj24_1 : decode jc24 1 = .ok (.newarray .byte, 2) := by decide +kernel
theorem dj24_3 : decode jc24 3 = .ok (.dup, 1) := by decide +kernel
theorem dj24_4 : decode jc24 4 = .ok (.iconst 0, 1) := by decide +kernel
theorem dj24_5 : decode jc24 5 = .ok (.iload_n 0, 1) := by decide +kernel
theorem dj24_6 : decode jc24 6 = .ok (.i2b, 1) := by decide +kernel
theorem dj24_7 : decode jc24 7 = .ok (.bastore, 1) := by decide +kernel
theorem dj24_8 : decode jc24 8 = .ok (.areturn, 1) := by decide +kernel
theorem ef_tob (mi : MethodId) (c : Int32) : entryFrame mi #[(.int c)] 1 = mkF mi 0 #[.val (.int c)] [] := rfl
def Q_tob (Z : State) (c : Int32) (hE : Heap) (n0 : Nat) (vv : Option Value) (hh : Heap) (LL : List Loc) : Prop := ∃ t : Addr, ∃ kt : ClassId, (vv = some (.ref t)) ∧ (Fr n0 LL) ∧ (Keep hE hh []) ∧ (hE.size ≤ t) ∧ (Arv Z hh t kt .byte (1 : Int32) [(.int c.toInt8.toInt32)] (.int 0))
theorem rm_tob (hw : HW a0 Z) (ws : List Cond) (c : Int32) (hE : Heap) (n0 : Nat) (O : Old Z n0 hE) :
    MF la Z hE mn28 jc24 1 (some (.array .byte)) ws (rr 0 1 1 0) #[(.int c)] (Q_tob Z c hE n0) := by
  refine MetFree.of_bodySF (plainFor_of_name pn_java_lang_StringLatin1) hisR ?_
  intro pg ev sb mi gs below me cd s₁ Bd hml0 hPt hKt
  obtain ⟨rfl, hZ, hh⟩ := hPt
  have hx := Bd.exec
  have hby := Bd.bytes
  have hml : cd.maxLocals = 1 := hml0
  have hown : sb.vm.findClass c9_ = some mi.cls := findClass_of_methodNamed Bd.named
  have X0 : Stand pg la ev (rr 0 1 1 0) sb mi #[(.int c)] below me cd s₁ [] 0 0 := Stand.of_body Bd
  have eE : s₁.heap = hE := by rw [← hh, Bd.state]; rfl
  have N0 := Fr.nil n0
  have pre0 : ∀ tt, SP pg ev below (s₁.setTop (mkF mi 0 #[.val (.int c)] [])) tt → SP pg ev below (s₁.setTop (entryFrame mi #[(.int c)] 1)) tt := fun tt kk => castTop (ef_tob mi c) kk
  obtain ⟨T101, h101, k101, X101, e101, E101, A101, st101⟩ := newP (aty := .byte) X0 hx hZ (wd23 hw) eE (g := (mkF mi 1 #[.val (.int c)] [(.int 1)])) rfl (hb hby dj24_1) rfl (by decide) (cap := 1) (by decide) (by decide) (by decide) (by decide)
  obtain ⟨b101, q101⟩ : ∃ z, z = hE.size := ⟨_, rfl⟩
  rw [← q101] at A101 st101
  have f102 : Arv Z h101 b101 k101 .byte (1 : Int32) [(.int 0)] (.int 0) := (Arv.new A101 (by decide)).pad (pad_rep [] (.int 0) 1)
  obtain ⟨cl103, Ar103, qq103, Sz103, Nn103, Hh103, Gg103⟩ := id f102
  have hin103 : ¬ ((0 : Int32) < 0 ∨ cl103.slots.size ≤ ((0 : Int32)).toNatClampNeg) := inb_of Sz103 ⟨by decide, by decide⟩
  obtain ⟨T103, h103, X103, e103, W103, st103⟩ := stB X101 hx hZ e101 Ar103 (j := (0 : Int32)) hin103 (g := (mkF mi 7 #[.val (.int c)] [(.int (c.toInt8.toInt32)), (.int 0), (.ref b101), (.ref b101)])) rfl rfl (hb hby dj24_7)
  have g_b101 : n0 ≤ b101 := Nat.le_trans (Nat.le_trans (Nat.le_of_eq O.1.symm) O.2.1) (Nat.le_of_eq q101.symm)
  have N103 := Fr.snoc X103 N0 g_b101
  have f104 : Arv Z h103 b101 k101 .byte (1 : Int32) [(.int ((c.toInt8.toInt32)).toInt8.toInt32)] (.int 0) := Arv.set Ar103 qq103 Sz103 Nn103 Hh103 Gg103 (fits_nar_byte _) W103 0 rfl (Nat.le_of_ble_eq_true rfl)
  have f105 : Arv Z h103 b101 k101 .byte (1 : Int32) [(.int c.toInt8.toInt32)] (.int 0) := by simpa only [own_i8] using f104
  obtain ⟨fs, hr, hrun, hended, hW, hsame⟩ := X103.leave (v := some (.ref b101)) (fun hq => by rw [Bd.returns] at hq; cases hq)
  refine ⟨_, _, pre0 _ ?_, hrun, hended, _, _, rfl, ?_, ⟨_, rfl⟩, hW, hsame.mono (by decide) (by decide)⟩
  · show SP pg ev below (s₁.setTop (mkF mi 0 #[.val (.int c)] [])) _
    refine XS.iconst X0.here hx rfl (hb hby dj24_0) ?_
    refine st101 _ ?_
    refine XS.dup X101.here hx rfl (hb hby dj24_3) rfl rfl ?_
    refine XS.iconst X101.here hx rfl (hb hby dj24_4) ?_
    refine XS.iloadN X101.here hx rfl (hb hby dj24_5) rfl ?_
    refine XS.i2b X101.here hx rfl (hb hby dj24_6) rfl ?_
    refine st103 _ ?_
    show SP pg ev below (T103.setTop (mkF mi 8 #[.val (.int c)] [(.ref b101)])) _
    jvm_step X103.here [X103.here.top, hx, (hb hby dj24_8), X103.method', Bd.returns, Value.isRef, FieldType.isReference]
    first | (intro acts; rw [hr _ acts rfl rfl rfl]) | rw [hr _ _ rfl rfl rfl]
    exact Steps.refl _
  · show Q_tob Z c hE n0 _ T103.heap _
    rw [e103]
    exact ⟨b101, k101, rfl, N103, (((Keep.refl hE []).ext E101).trans (Keep.of_wr W103) (allS (Or.inr (Nat.le_of_eq q101.symm)) all0)), (Nat.le_of_eq q101.symm), f105⟩
theorem dj8_0 : decode jc8 0 = .ok (.getstatic 38, 3) := by decide +kernel
theorem dj8_3 : decode jc8 3 = .ok (.ifCond .eq 23, 3) := by decide +kernel
theorem dj8_6 : decode jc8 6 = .ok (.iload_n 0, 1) := by decide +kernel
theorem dj8_7 : decode jc8 7 = .ok (.invokestatic 1015, 3) := by decide +kernel
theorem dj8_10 : decode jc8 10 = .ok (.ifCond .eq 16, 3) := by decide +kernel
theorem dj8_13 : decode jc8 13 = .ok (.new 10, 3) := by decide +kernel
theorem dj8_16 : decode jc8 16 = .ok (.dup, 1) := by decide +kernel
theorem dj8_17 : decode jc8 17 = .ok (.iload_n 0, 1) := by decide +kernel
theorem dj8_18 : decode jc8 18 = .ok (.invokestatic 1018, 3) := by decide +kernel
theorem dj8_21 : decode jc8 21 = .ok (.iconst 0, 1) := by decide +kernel
theorem dj8_22 : decode jc8 22 = .ok (.invokespecial 209, 3) := by decide +kernel
theorem dj8_25 : decode jc8 25 = .ok (.areturn, 1) := by decide +kernel
theorem pd_17 : parseMethodDescriptor "(C)Z" = some ⟨[.char], some .boolean⟩ := by decide +kernel
theorem pd_18 : parseMethodDescriptor "(C)[B" = some ⟨[.char], some (.array .byte)⟩ := by decide +kernel
theorem pd_19 : parseMethodDescriptor "([BB)V" = some ⟨[(.array .byte), .byte], none⟩ := by decide +kernel
theorem ef_vof (mi : MethodId) (c : Int32) : entryFrame mi #[(.int c)] 1 = mkF mi 0 #[.val (.int c)] [] := rfl
def Q_vof (Z : State) (c zc : Int32) (hE : Heap) (n0 : Nat) (vv : Option Value) (hh : Heap) (LL : List Loc) : Prop := ∃ x : Addr, ∃ t : Addr, (vv = some (.ref x)) ∧ (Fr n0 LL) ∧ (Keep hE hh []) ∧ (hE.size ≤ x) ∧ (hE.size ≤ t) ∧ (LStr Z hh x t ([c] : List Int32))
theorem rm_vof (hw : HW a0 Z) (ws : List Cond) (c zc : Int32) (hE : Heap) (n0 : Nat) (O : Old Z n0 hE) (D0_ : Sta Z Z.heap c1_ c6_ "Z" (.int zc)) (hbb : ¬ ((255 : Int32) < c)) (hn : ¬ (c < (0 : Int32))) (hzc : ¬ (zc = (0 : Int32))) :
    MF la Z hE mn29 jc8 1 (some (.object c1_)) ws (rr 2 2 5 27) #[(.int c)] (Q_vof Z c zc hE n0) := by
  refine MetFree.of_bodySF (plainFor_of_name pn_java_lang_String) hisR ?_
  intro pg ev sb mi gs below me cd s₁ Bd hml0 hPt hKt
  obtain ⟨rfl, hZ, hh⟩ := hPt
  have hx := Bd.exec
  have hby := Bd.bytes
  have hml : cd.maxLocals = 1 := hml0
  have hown : sb.vm.findClass c1_ = some mi.cls := findClass_of_methodNamed Bd.named
  have X0 : Stand pg la ev (rr 2 2 5 27) sb mi #[(.int c)] below me cd s₁ [] 0 0 := Stand.of_body Bd
  have eE : s₁.heap = hE := by rw [← hh, Bd.state]; rfl
  have N0 := Fr.nil n0
  have pre0 : ∀ tt, SP pg ev below (s₁.setTop (mkF mi 0 #[.val (.int c)] [])) tt → SP pg ev below (s₁.setTop (entryFrame mi #[(.int c)] 1)) tt := fun tt kk => castTop (ef_vof mi c) kk
  obtain ⟨T101, X101, e101, st101⟩ := getS2 X0 hx hZ hown (host := "") (Or.inl (wd18 hw)) Via.refl eE (D0_.ext O.2) (g := (mkF mi 0 #[.val (.int c)] [])) rfl (hb hby dj8_0)
  obtain ⟨v102, _, ⟨T102, L102, k102, n102⟩, -, X102, ⟨Lc102, hQ102, l102, y102, z102⟩, st102⟩ := Jvm.LawKit.callS X101 hx (y := mn27) hown (mvT hZ (wd37 hw)) (mvT hZ (wd38 hw)) (mvT hZ (wd39 hw)) (mvT hZ (wd40 hw)) (by decide) (backOf (W := 0) (rm_cenc la Z a0 hw [] c hE n0 O (hbb : ¬ ((255 : Int32) < c))) hZ (wd40 hw) (wd39 hw) (by decide) (by decide)) (g := (mkF mi 7 #[.val (.int c)] [(.int c)])) rfl (by rw [hml]; rfl) (argsL := [(.int c)]) (rest := []) (lenOf pd_17 rfl) rfl (Nat.le_of_ble_eq_true rfl) (hb hby dj8_7) (fun _ _ => ⟨rfl, e101, (by decide : 0 + 0 ≤ _), (by decide : 0 + 0 ≤ _)⟩)
  dsimp only [Pt.U, Pt.locs, Pt.cells, Pt.slots] at X102 l102 y102 z102 st102 hQ102
  subst l102 y102 z102
  obtain ⟨rfl, Nq102, ek102⟩ := hQ102
  have N102 := Fr.app N0 Nq102
  obtain ⟨T103, h103, X103, e103, E103, A103, D103, -, st103⟩ := newO X102 hx hZ hown (wd41 hw) (wd5 hw) (wd6 hw) ek102 (g := (mkF mi 13 #[.val (.int c)] [])) rfl (hb hby dj8_13) (by decide) (by decide)
  obtain ⟨b103, q103⟩ : ∃ z, z = hE.size := ⟨_, rfl⟩
  rw [← q103] at A103 D103 st103
  have f104 : Fld Z h103 b103 c1_ "coder" "B" (.int 0) := D103 (Or.inr (wd31 hw)) (ty := .byte) (by decide)
  have f105 : Fld Z h103 b103 c1_ "value" "[B" .null := D103 (Or.inr (wd33 hw)) (ty := (.array .byte)) (by decide)
  have O106 : Old Z n0 h103 := (O.ext E103)
  obtain ⟨v107, _, ⟨T107, L107, k107, n107⟩, -, X107, ⟨Lc107, hQ107, l107, y107, z107⟩, st107⟩ := Jvm.LawKit.callS X103 hx (y := mn28) hown (mvT hZ (wd42 hw)) (mvT hZ (wd43 hw)) (mvT hZ (wd39 hw)) (mvT hZ (wd44 hw)) (by decide) (backOf (W := 2) (rm_tob la Z a0 hw [] c h103 n0 O106) hZ (wd44 hw) (wd39 hw) (by decide) (by decide)) (g := (mkF mi 18 #[.val (.int c)] [(.int c), (.ref b103), (.ref b103)])) rfl (by rw [hml]; rfl) (argsL := [(.int c)]) (rest := [(.ref b103), (.ref b103)]) (lenOf pd_18 rfl) rfl (Nat.le_of_ble_eq_true rfl) (hb hby dj8_18) (fun _ _ => ⟨rfl, e103, (by decide : 1 + 1 ≤ _), (by decide : 4 + 1 ≤ _)⟩)
  dsimp only [Pt.U, Pt.locs, Pt.cells, Pt.slots] at X107 l107 y107 z107 st107 hQ107
  subst l107 y107 z107
  obtain ⟨t_107, kt_107, rfl, Nq107, Kq107, fr_t_107, r107_0⟩ := hQ107
  have N107 := Fr.app N102 Nq107
  have O108 : Old Z n0 T107.heap := (O106.keep Kq107 all0)
  have f109 : Exa Z T107.heap b103 c1_ := (A103.keep Kq107)
  have f110 : Fld Z T107.heap b103 c1_ "value" "[B" .null := (f105.keep Kq107 nin0)
  have f111 : Fld Z T107.heap b103 c1_ "coder" "B" (.int 0) := (f104.keep Kq107 nin0)
  have g_b103 : n0 ≤ b103 := Nat.le_trans (Nat.le_trans (Nat.le_of_eq O.1.symm) O.2.1) (Nat.le_of_eq q103.symm)
  obtain ⟨v112, _, ⟨T112, L112, k112, n112⟩, -, X112, ⟨Lc112, hQ112, l112, y112, z112⟩, st112⟩ := X107.specialBack hx (y := mn26) rfl hown (mvT hZ (wd45 hw)) (mvT hZ (wd46 hw)) (mvT hZ (wd47 hw)) (by decide) (backOf (W := 1) (rm_sbb la Z a0 hw [] b103 t_107 T107.heap n0 O108 f109 f110 f111 g_b103) hZ (wd47 hw) (wd6 hw) (by decide) (by decide)) (g := (mkF mi 22 #[.val (.int c)] [(.int 0), (.ref t_107), (.ref b103), (.ref b103)])) rfl (by rw [hml]; rfl) (Steps.refl _) (a := b103) (argsL := [(.ref t_107), (.int 0)]) (rest := [(.ref b103)]) (lenOf pd_19 rfl) rfl (Nat.le_of_ble_eq_true rfl) (hb hby dj8_22) (fun _ _ => ⟨rfl, rfl, (by decide : 2 + 0 ≤ _), (by decide : 5 + 0 ≤ _)⟩)
  dsimp only [Pt.U, Pt.locs, Pt.cells, Pt.slots] at X112 l112 y112 z112 st112 hQ112
  subst l112 y112 z112
  obtain ⟨rfl, Nq112, Kq112, r112_0, r112_1, r112_2⟩ := hQ112
  have N112 := Fr.app N107 Nq112
  have ne_b103_t_107 : b103 ≠ t_107 := Nat.ne_of_lt (Nat.lt_of_lt_of_le A103.lt (Nat.le_trans (Nat.le_refl _) fr_t_107))
  have f113 : Arv Z T112.heap t_107 kt_107 .byte (1 : Int32) [(.int c.toInt8.toInt32)] (.int 0) := (r107_0.keep Kq112 (ninS (Ne.symm ne_b103_t_107) nin0))
  have s114 : LStr Z T112.heap b103 t_107 ([c] : List Int32) := ⟨r112_0, r112_1, r112_2, ⟨_, f113⟩, (by intro z hz; cases List.mem_singleton.mp hz; exact ⟨hn, hbb⟩), (Nat.le_of_ble_eq_true rfl)⟩
  obtain ⟨fs, hr, hrun, hended, hW, hsame⟩ := X112.leave (v := some (.ref b103)) (fun hq => by rw [Bd.returns] at hq; cases hq)
  refine ⟨_, _, pre0 _ ?_, hrun, hended, _, _, rfl, ?_, ⟨_, rfl⟩, hW, hsame.mono (by decide) (by decide)⟩
  · show SP pg ev below (s₁.setTop (mkF mi 0 #[.val (.int c)] [])) _
    refine st101 _ ?_
    refine XS.ifNo X101.here hx rfl (hb hby dj8_3) rfl ((if0 _ _).trans (feq hzc).1) ?_
    refine XS.iloadN X101.here hx rfl (hb hby dj8_6) rfl ?_
    refine st102 _ ?_
    refine XS.ifNo X102.here hx rfl (hb hby dj8_10) rfl ((if0 _ _).trans (feq (by decide : ¬ ((1 : Int32) = (0 : Int32)))).1) ?_
    refine st103 _ ?_
    refine XS.dup X103.here hx rfl (hb hby dj8_16) rfl rfl ?_
    refine XS.iloadN X103.here hx rfl (hb hby dj8_17) rfl ?_
    refine st107 _ ?_
    refine XS.iconst X107.here hx rfl (hb hby dj8_21) ?_
    refine st112.trans ?_
    show SP pg ev below (T112.setTop (mkF mi 25 #[.val (.int c)] [(.ref b103)])) _
    jvm_step X112.here [X112.here.top, hx, (hb hby dj8_25), X112.method', Bd.returns, Value.isRef, FieldType.isReference]
    first | (intro acts; rw [hr _ acts rfl rfl rfl]) | rw [hr _ _ rfl rfl rfl]
    exact Steps.refl _
  · show Q_vof Z c zc hE n0 _ T112.heap _
    exact ⟨b103, t_107, rfl, N112, ((((Keep.refl hE []).ext E103).trans Kq107 all0).trans Kq112 (allS (Or.inr (Nat.le_of_eq q103.symm)) all0)), (Nat.le_of_eq q103.symm), (Nat.le_trans E103.1 fr_t_107), s114⟩
theorem dj36_0 : decode jc36 0 = .ok (.aload_n 0, 1) := by decide +kernel
theorem dj36_1 : decode jc36 1 = .ok (.invokespecial 1, 3) := by decide +kernel
theorem dj36_4 : decode jc36 4 = .ok (.return_, 1) := by decide +kernel
theorem pn_java_lang_Record : plainName "java/lang/Record" = true := by first | (simp [plainName, overriddenIn]; done) | decide +kernel
theorem ef_rec (mi : MethodId) (a : Addr) : entryFrame mi #[(.ref a)] 1 = mkF mi 0 #[.val (.ref a)] [] := rfl
def Q_rec (Z : State) (a : Addr) (hE : Heap) (n0 : Nat) (vv : Option Value) (hh : Heap) (LL : List Loc) : Prop := (vv = none) ∧ (Fr n0 LL) ∧ (hh = hE)
theorem rm_rec (hw : HW a0 Z) (ws : List Cond) (a : Addr) (hE : Heap) (n0 : Nat) (O : Old Z n0 hE) :
    MF la Z hE mn30 jc36 1 none ws (rr 1 0 0 12) #[(.ref a)] (Q_rec Z a hE n0) := by
  refine MetFree.of_bodySF (plainFor_of_name pn_java_lang_Record) hisR ?_
  intro pg ev sb mi gs below me cd s₁ Bd hml0 hPt hKt
  obtain ⟨rfl, hZ, hh⟩ := hPt
  have hx := Bd.exec
  have hby := Bd.bytes
  have hml : cd.maxLocals = 1 := hml0
  have hown : sb.vm.findClass c26_ = some mi.cls := findClass_of_methodNamed Bd.named
  have X0 : Stand pg la ev (rr 1 0 0 12) sb mi #[(.ref a)] below me cd s₁ [] 0 0 := Stand.of_body Bd
  have eE : s₁.heap = hE := by rw [← hh, Bd.state]; rfl
  have N0 := Fr.nil n0
  have pre0 : ∀ tt, SP pg ev below (s₁.setTop (mkF mi 0 #[.val (.ref a)] [])) tt → SP pg ev below (s₁.setTop (entryFrame mi #[(.ref a)] 1)) tt := fun tt kk => castTop (ef_rec mi a) kk
  obtain ⟨T101, X101, e101, st101⟩ := initO X0 hx hZ hown (wd59 hw) (wd16 hw) (wd17 hw) eE (g := (mkF mi 1 #[.val (.ref a)] [(.ref a)])) rfl (by rw [hml]; rfl) rfl (hb hby dj36_1) (by decide) (W := 0) (Nat.le_of_ble_eq_true rfl) (by decide)
  obtain ⟨fs, hr, hrun, hended, hW, hsame⟩ := X101.leave (v := none) (fun _ => rfl)
  refine ⟨_, _, pre0 _ ?_, hrun, hended, _, _, rfl, ?_, ⟨_, rfl⟩, hW, hsame.mono (by decide) (by decide)⟩
  · show SP pg ev below (s₁.setTop (mkF mi 0 #[.val (.ref a)] [])) _
    refine XS.aloadN X0.here hx rfl (hb hby dj36_0) rfl rfl ?_
    refine st101 _ ?_
    show SP pg ev below (T101.setTop (mkF mi 4 #[.val (.ref a)] [])) _
    exact X101.returnOut hx Bd.returns (hb hby dj36_4) hr
  · show Q_rec Z a hE n0 _ T101.heap _
    rw [e101]
    exact ⟨rfl, N0, rfl⟩
theorem dj25_0 : decode jc25 0 = .ok (.aload_n 0, 1) := by decide +kernel
theorem dj25_1 : decode jc25 1 = .ok (.ifnonnull 12, 3) := by decide +kernel
theorem dj25_13 : decode jc25 13 = .ok (.aload_n 0, 1) := by decide +kernel
theorem dj25_14 : decode jc25 14 = .ok (.areturn, 1) := by decide +kernel
theorem pn_java_util_Objects : plainName "java/util/Objects" = true := by first | (simp [plainName, overriddenIn]; done) | decide +kernel
theorem ef_rnn2 (mi : MethodId) (a : Addr) (b : Addr) : entryFrame mi #[(.ref a), (.ref b)] 2 = mkF mi 0 #[.val (.ref a), .val (.ref b)] [] := rfl
def Q_rnn2 (Z : State) (a b : Addr) (hE : Heap) (n0 : Nat) (vv : Option Value) (hh : Heap) (LL : List Loc) : Prop := (vv = some (.ref a)) ∧ (Fr n0 LL) ∧ (hh = hE)
theorem rm_rnn2 (hw : HW a0 Z) (ws : List Cond) (a b : Addr) (hE : Heap) (n0 : Nat) (O : Old Z n0 hE) :
    MF la Z hE mn31 jc25 2 (some (.object c15_)) ws (rr 0 0 0 0) #[(.ref a), (.ref b)] (Q_rnn2 Z a b hE n0) := by
  refine MetFree.of_bodySF (plainFor_of_name pn_java_util_Objects) hisR ?_
  intro pg ev sb mi gs below me cd s₁ Bd hml0 hPt hKt
  obtain ⟨rfl, hZ, hh⟩ := hPt
  have hx := Bd.exec
  have hby := Bd.bytes
  have hml : cd.maxLocals = 2 := hml0
  have hown : sb.vm.findClass "java/util/Objects" = some mi.cls := findClass_of_methodNamed Bd.named
  have X0 : Stand pg la ev (rr 0 0 0 0) sb mi #[(.ref a), (.ref b)] below me cd s₁ [] 0 0 := Stand.of_body Bd
  have eE : s₁.heap = hE := by rw [← hh, Bd.state]; rfl
  have N0 := Fr.nil n0
  have pre0 : ∀ tt, SP pg ev below (s₁.setTop (mkF mi 0 #[.val (.ref a), .val (.ref b)] [])) tt → SP pg ev below (s₁.setTop (entryFrame mi #[(.ref a), (.ref b)] 2)) tt := fun tt kk => castTop (ef_rnn2 mi a b) kk
  obtain ⟨fs, hr, hrun, hended, hW, hsame⟩ := X0.leave (v := some (.ref a)) (fun hq => by rw [Bd.returns] at hq; cases hq)
  refine ⟨_, _, pre0 _ ?_, hrun, hended, _, _, rfl, ?_, ⟨_, rfl⟩, hW, hsame.mono (by decide) (by decide)⟩
  · show SP pg ev below (s₁.setTop (mkF mi 0 #[.val (.ref a), .val (.ref b)] [])) _
    refine XS.aloadN X0.here hx rfl (hb hby dj25_0) rfl rfl ?_
    refine XS.ifnonnullYes X0.here hx rfl (pc0 := 1) (pc' := 13) rfl (hb hby dj25_1) rfl (by decide) (by decide) ?_
    refine XS.aloadN X0.here hx rfl (hb hby dj25_13) rfl rfl ?_
    show SP pg ev below (s₁.setTop (mkF mi 14 #[.val (.ref a), .val (.ref b)] [(.ref a)])) _
    jvm_step X0.here [X0.here.top, hx, (hb hby dj25_14), X0.method', Bd.returns, Value.isRef, FieldType.isReference]
    first | (intro acts; rw [hr _ acts rfl rfl rfl]) | rw [hr _ _ rfl rfl rfl]
    exact Steps.refl _
  · show Q_rnn2 Z a b hE n0 _ s₁.heap _
    rw [eE]
    exact ⟨rfl, N0, rfl⟩
theorem dj9_0 : decode jc9 0 = .ok (.aload_n 0, 1) := by decide +kernel
theorem dj9_1 : decode jc9 1 = .ok (.areturn, 1) := by decide +kernel
theorem ef_sts (mi : MethodId) (x : Addr) : entryFrame mi #[(.ref x)] 1 = mkF mi 0 #[.val (.ref x)] [] := rfl
def Q_sts (Z : State) (x : Addr) (hE : Heap) (n0 : Nat) (vv : Option Value) (hh : Heap) (LL : List Loc) : Prop := (vv = some (.ref x)) ∧ (Fr n0 LL) ∧ (hh = hE)
theorem rm_sts (hw : HW a0 Z) (ws : List Cond) (x : Addr) (hE : Heap) (n0 : Nat) (O : Old Z n0 hE) :
    MF la Z hE mn32 jc9 1 (some (.object c1_)) ws (rr 0 0 0 0) #[(.ref x)] (Q_sts Z x hE n0) := by
  refine MetFree.of_bodySF (plainFor_of_name pn_java_lang_String) hisR ?_
  intro pg ev sb mi gs below me cd s₁ Bd hml0 hPt hKt
  obtain ⟨rfl, hZ, hh⟩ := hPt
  have hx := Bd.exec
  have hby := Bd.bytes
  have hml : cd.maxLocals = 1 := hml0
  have hown : sb.vm.findClass c1_ = some mi.cls := findClass_of_methodNamed Bd.named
  have X0 : Stand pg la ev (rr 0 0 0 0) sb mi #[(.ref x)] below me cd s₁ [] 0 0 := Stand.of_body Bd
  have eE : s₁.heap = hE := by rw [← hh, Bd.state]; rfl
  have N0 := Fr.nil n0
  have pre0 : ∀ tt, SP pg ev below (s₁.setTop (mkF mi 0 #[.val (.ref x)] [])) tt → SP pg ev below (s₁.setTop (entryFrame mi #[(.ref x)] 1)) tt := fun tt kk => castTop (ef_sts mi x) kk
  obtain ⟨fs, hr, hrun, hended, hW, hsame⟩ := X0.leave (v := some (.ref x)) (fun hq => by rw [Bd.returns] at hq; cases hq)
  refine ⟨_, _, pre0 _ ?_, hrun, hended, _, _, rfl, ?_, ⟨_, rfl⟩, hW, hsame.mono (by decide) (by decide)⟩
  · show SP pg ev below (s₁.setTop (mkF mi 0 #[.val (.ref x)] [])) _
    refine XS.aloadN X0.here hx rfl (hb hby dj9_0) rfl rfl ?_
    show SP pg ev below (s₁.setTop (mkF mi 1 #[.val (.ref x)] [(.ref x)])) _
    jvm_step X0.here [X0.here.top, hx, (hb hby dj9_1), X0.method', Bd.returns, Value.isRef, FieldType.isReference]
    first | (intro acts; rw [hr _ acts rfl rfl rfl]) | rw [hr _ _ rfl rfl rfl]
    exact Steps.refl _
  · show Q_sts Z x hE n0 _ s₁.heap _
    rw [eE]
    exact ⟨rfl, N0, rfl⟩
theorem dj10_0 : decode jc10 0 = .ok (.getstatic 38, 3) := by decide +kernel
theorem dj10_3 : decode jc10 3 = .ok (.ifCond .eq 14, 3) := by decide +kernel
theorem dj10_6 : decode jc10 6 = .ok (.aload_n 0, 1) := by decide +kernel
theorem dj10_7 : decode jc10 7 = .ok (.getfield 15, 3) := by decide +kernel
theorem dj10_10 : decode jc10 10 = .ok (.ifCond .ne 7, 3) := by decide +kernel
theorem dj10_13 : decode jc10 13 = .ok (.iconst 1, 1) := by decide +kernel
theorem dj10_14 : decode jc10 14 = .ok (.goto 4, 3) := by decide +kernel
theorem dj10_18 : decode jc10 18 = .ok (.ireturn, 1) := by decide +kernel
theorem ef_isl1 (mi : MethodId) (x : Addr) : entryFrame mi #[(.ref x)] 1 = mkF mi 0 #[.val (.ref x)] [] := rfl
def Q_isl1 (Z : State) (x : Addr) (zc : Int32) (hE : Heap) (n0 : Nat) (vv : Option Value) (hh : Heap) (LL : List Loc) : Prop := (vv = some (.int 1)) ∧ (Fr n0 LL) ∧ (hh = hE)
theorem rm_isl1 (hw : HW a0 Z) (ws : List Cond) (x : Addr) (zc : Int32) (hE : Heap) (n0 : Nat) (O : Old Z n0 hE) (P0_ : Fld Z hE x c1_ "coder" "B" (.int 0)) (D0_ : Sta Z Z.heap c1_ c6_ "Z" (.int zc)) (hzc : ¬ (zc = (0 : Int32))) :
    MF la Z hE mn33 jc10 1 (some .boolean) ws (rr 0 0 0 0) #[(.ref x)] (Q_isl1 Z x zc hE n0) := by
  refine MetFree.of_bodySF (plainFor_of_name pn_java_lang_String) hisR ?_
  intro pg ev sb mi gs below me cd s₁ Bd hml0 hPt hKt
  obtain ⟨rfl, hZ, hh⟩ := hPt
  have hx := Bd.exec
  have hby := Bd.bytes
  have hml : cd.maxLocals = 1 := hml0
  have hown : sb.vm.findClass c1_ = some mi.cls := findClass_of_methodNamed Bd.named
  have X0 : Stand pg la ev (rr 0 0 0 0) sb mi #[(.ref x)] below me cd s₁ [] 0 0 := Stand.of_body Bd
  have eE : s₁.heap = hE := by rw [← hh, Bd.state]; rfl
  have N0 := Fr.nil n0
  have pre0 : ∀ tt, SP pg ev below (s₁.setTop (mkF mi 0 #[.val (.ref x)] [])) tt → SP pg ev below (s₁.setTop (entryFrame mi #[(.ref x)] 1)) tt := fun tt kk => castTop (ef_isl1 mi x) kk
  obtain ⟨T101, X101, e101, st101⟩ := getS2 X0 hx hZ hown (host := "") (Or.inl (wd18 hw)) Via.refl eE (D0_.ext O.2) (g := (mkF mi 0 #[.val (.ref x)] [])) rfl (hb hby dj10_0)
  obtain ⟨T102, X102, e102, st102⟩ := getF X101 hx hZ hown (host := "") (Or.inl (wd30 hw)) Via.refl e101 P0_ (g := (mkF mi 7 #[.val (.ref x)] [(.ref x)])) rfl rfl (hb hby dj10_7)
  obtain ⟨fs, hr, hrun, hended, hW, hsame⟩ := X102.leave (v := some (.int 1)) (fun hq => by rw [Bd.returns] at hq; cases hq)
  refine ⟨_, _, pre0 _ ?_, hrun, hended, _, _, rfl, ?_, ⟨_, rfl⟩, hW, hsame.mono (by decide) (by decide)⟩
  · show SP pg ev below (s₁.setTop (mkF mi 0 #[.val (.ref x)] [])) _
    refine st101 _ ?_
    refine XS.ifNo X101.here hx rfl (hb hby dj10_3) rfl ((if0 _ _).trans (feq hzc).1) ?_
    refine XS.aloadN X101.here hx rfl (hb hby dj10_6) rfl rfl ?_
    refine st102 _ ?_
    refine XS.ifNo X102.here hx rfl (hb hby dj10_10) rfl ((if0 _ _).trans (teq (rfl : (0 : Int32) = (0 : Int32))).2) ?_
    refine XS.iconst X102.here hx rfl (hb hby dj10_13) ?_
    refine XS.goto X102.here hx rfl (pc0 := 14) (pc' := 18) rfl (hb hby dj10_14) (by decide) (by decide) ?_
    show SP pg ev below (T102.setTop (mkF mi 18 #[.val (.ref x)] [(.int 1)])) _
    exact retN X102 hx (t := .boolean) Bd.returns (by simp) (hb hby dj10_18) hr
  · show Q_isl1 Z x zc hE n0 _ T102.heap _
    rw [e102]
    exact ⟨rfl, N0, rfl⟩
theorem dj26_0 : decode jc26 0 = .ok (.aload_n 0, 1) := by decide +kernel
theorem dj26_1 : decode jc26 1 = .ok (.getfield 9, 3) := by decide +kernel
theorem dj26_4 : decode jc26 4 = .ok (.arraylength, 1) := by decide +kernel
theorem dj26_5 : decode jc26 5 = .ok (.ifCond .ne 7, 3) := by decide +kernel
theorem dj26_12 : decode jc26 12 = .ok (.iconst 0, 1) := by decide +kernel
theorem dj26_13 : decode jc26 13 = .ok (.ireturn, 1) := by decide +kernel
theorem ef_emp (mi : MethodId) (x : Addr) : entryFrame mi #[(.ref x)] 1 = mkF mi 0 #[.val (.ref x)] [] := rfl
def Q_emp (Z : State) (x t : Addr) (cs : List Int32) (hE : Heap) (n0 : Nat) (vv : Option Value) (hh : Heap) (LL : List Loc) : Prop := (vv = some (.int 0)) ∧ (Fr n0 LL) ∧ (hh = hE)
theorem rm_emp (hw : HW a0 Z) (ws : List Cond) (x t : Addr) (cs : List Int32) (hE : Heap) (n0 : Nat) (O : Old Z n0 hE) (P0_ : LStr Z hE x t cs) (hne : cs.length ≠ 0) :
    MF la Z hE mn34 jc26 1 (some .boolean) ws (rr 0 0 0 0) #[(.ref x)] (Q_emp Z x t cs hE n0) := by
  refine MetFree.of_bodySF (plainFor_of_name pn_java_lang_String) hisR ?_
  intro pg ev sb mi gs below me cd s₁ Bd hml0 hPt hKt
  obtain ⟨rfl, hZ, hh⟩ := hPt
  have hx := Bd.exec
  have hby := Bd.bytes
  have hml : cd.maxLocals = 1 := hml0
  have hown : sb.vm.findClass c1_ = some mi.cls := findClass_of_methodNamed Bd.named
  have X0 : Stand pg la ev (rr 0 0 0 0) sb mi #[(.ref x)] below me cd s₁ [] 0 0 := Stand.of_body Bd
  have eE : s₁.heap = hE := by rw [← hh, Bd.state]; rfl
  have N0 := Fr.nil n0
  have pre0 : ∀ tt, SP pg ev below (s₁.setTop (mkF mi 0 #[.val (.ref x)] [])) tt → SP pg ev below (s₁.setTop (entryFrame mi #[(.ref x)] 1)) tt := fun tt kk => castTop (ef_emp mi x) kk
  obtain ⟨sE101, sV101, sC101, ⟨kb101, sK101⟩, sb101, sl101⟩ := id P0_
  obtain ⟨T102, X102, e102, st102⟩ := getF X0 hx hZ hown (host := "") (Or.inl (wd32 hw)) Via.refl eE sV101 (g := (mkF mi 1 #[.val (.ref x)] [(.ref x)])) rfl rfl (hb hby dj26_1)
  obtain ⟨cl103, Ar103, -, Sz103, Nn103, -, -⟩ := id sK101
  obtain ⟨fs, hr, hrun, hended, hW, hsame⟩ := X102.leave (v := some (.int 0)) (fun hq => by rw [Bd.returns] at hq; cases hq)
  refine ⟨_, _, pre0 _ ?_, hrun, hended, _, _, rfl, ?_, ⟨_, rfl⟩, hW, hsame.mono (by decide) (by decide)⟩
  · show SP pg ev below (s₁.setTop (mkF mi 0 #[.val (.ref x)] [])) _
    refine XS.aloadN X0.here hx rfl (hb hby dj26_0) rfl rfl ?_
    refine st102 _ ?_
    refine X102.arraylength hx (cell := cl103) (by rw [e102]; exact Ar103.1) (State.isArrayOf_alike hZ.alike Ar103.2.1) (g := (mkF mi 4 #[.val (.ref x)] [(.ref t)])) rfl (rest := []) rfl (hb hby dj26_4) _ ?_
    rw [len_of Sz103 Nn103]
    refine XS.ifYes X102.here hx rfl (pc0 := 5) (pc' := 12) rfl (hb hby dj26_5) rfl ((if0 _ _).trans (feq (own_ne0 hne sl101)).2) (by decide) (by decide) ?_
    refine XS.iconst X102.here hx rfl (hb hby dj26_12) ?_
    show SP pg ev below (T102.setTop (mkF mi 13 #[.val (.ref x)] [(.int 0)])) _
    exact retN X102 hx (t := .boolean) Bd.returns (by simp) (hb hby dj26_13) hr
  · show Q_emp Z x t cs hE n0 _ T102.heap _
    rw [e102]
    exact ⟨rfl, N0, rfl⟩
theorem dj27_0 : decode jc27 0 = .ok (.aload_n 1, 1) := by decide +kernel
theorem dj27_1 : decode jc27 1 = .ok (.arraylength, 1) := by decide +kernel
theorem dj27_2 : decode jc27 2 = .ok (.ifCond .ne 5, 3) := by decide +kernel
theorem dj27_7 : decode jc27 7 = .ok (.aload_n 0, 1) := by decide +kernel
theorem dj27_8 : decode jc27 8 = .ok (.arraylength, 1) := by decide +kernel
theorem dj27_9 : decode jc27 9 = .ok (.ifCond .ne 5, 3) := by decide +kernel
theorem dj27_14 : decode jc27 14 = .ok (.aload_n 0, 1) := by decide +kernel
theorem dj27_15 : decode jc27 15 = .ok (.aload_n 0, 1) := by decide +kernel
theorem dj27_16 : decode jc27 16 = .ok (.arraylength, 1) := by decide +kernel
theorem dj27_17 : decode jc27 17 = .ok (.aload_n 1, 1) := by decide +kernel
theorem dj27_18 : decode jc27 18 = .ok (.aload_n 1, 1) := by decide +kernel
theorem dj27_19 : decode jc27 19 = .ok (.arraylength, 1) := by decide +kernel
theorem dj27_20 : decode jc27 20 = .ok (.iconst 0, 1) := by decide +kernel
theorem dj27_21 : decode jc27 21 = .ok (.invokestatic 99, 3) := by decide +kernel
theorem dj27_24 : decode jc27 24 = .ok (.ireturn, 1) := by decide +kernel
theorem pd_20 : parseMethodDescriptor "([BI[BII)I" = some ⟨[(.array .byte), .int, (.array .byte), .int, .int], some .int⟩ := by decide +kernel
theorem ef_ixc_47 (mi : MethodId) (t : Addr) (u : Addr) : entryFrame mi #[(.ref t), (.ref u)] 2 = mkF mi 0 #[.val (.ref t), .val (.ref u)] [] := rfl
def Q_ixc_47 (Z : State) (t u : Addr) (kt ku : ClassId) (cs : List Int32) (hE : Heap) (n0 : Nat) (vv : Option Value) (hh : Heap) (LL : List Loc) : Prop := (vv = some (.int (-1))) ∧ (Fr n0 LL) ∧ (hh = hE)
theorem rm_ixc_47 (hw : HW a0 Z) (ws : List Cond) (t u : Addr) (kt ku : ClassId) (cs : List Int32) (hE : Heap) (n0 : Nat) (O : Old Z n0 hE) (P0_ : Arv Z hE t kt .byte (Int32.ofNat cs.length) (cs.map fun c => Value.int c.toInt8.toInt32) (.int 0)) (P1_ : Arv Z hE u ku .byte (1 : Int32) [(.int 47)] (.int 0)) (hl : cs.length ≤ 4000) (hne : cs.length ≠ 0) (hd : ∀ c ∈ cs, ¬ ((c.toInt8.toInt32) = (47 : Int32))) :
    MF la Z hE mn36 jc27 2 (some .int) ws (rr 2 0 0 82) #[(.ref t), (.ref u)] (Q_ixc_47 Z t u kt ku cs hE n0) := by
  refine MetFree.of_bodySF (plainFor_of_name pn_java_lang_StringLatin1) hisR ?_
  intro pg ev sb mi gs below me cd s₁ Bd hml0 hPt hKt
  obtain ⟨rfl, hZ, hh⟩ := hPt
  have hx := Bd.exec
  have hby := Bd.bytes
  have hml : cd.maxLocals = 2 := hml0
  have hown : sb.vm.findClass c9_ = some mi.cls := findClass_of_methodNamed Bd.named
  have X0 : Stand pg la ev (rr 2 0 0 82) sb mi #[(.ref t), (.ref u)] below me cd s₁ [] 0 0 := Stand.of_body Bd
  have eE : s₁.heap = hE := by rw [← hh, Bd.state]; rfl
  have N0 := Fr.nil n0
  have pre0 : ∀ tt, SP pg ev below (s₁.setTop (mkF mi 0 #[.val (.ref t), .val (.ref u)] [])) tt → SP pg ev below (s₁.setTop (entryFrame mi #[(.ref t), (.ref u)] 2)) tt := fun tt kk => castTop (ef_ixc_47 mi t u) kk
  obtain ⟨cl101, Ar101, -, Sz101, Nn101, -, -⟩ := id P1_
  obtain ⟨cl102, Ar102, -, Sz102, Nn102, -, -⟩ := id P0_
  obtain ⟨cl103, Ar103, -, Sz103, Nn103, -, -⟩ := id P0_
  obtain ⟨cl104, Ar104, -, Sz104, Nn104, -, -⟩ := id P1_
  obtain ⟨v105, vw105, ⟨T105, L105, k105, n105⟩, hvw105, X105, ⟨⟨hh105, l105, y105, z105⟩, hv105⟩, st105⟩ := Jvm.LawKit.callS X0 hx (y := mn35) hown (mvT hZ (wd111 hw)) (mvT hZ (wd112 hw)) (mvT hZ (wd39 hw)) (mvT hZ (wd113 hw)) (by decide) (Jvm.Free.Str.IXS.pays (W := 0) (by decide) (by decide) (own_ixtab hw hZ) (mvT hZ (wd39 hw))) (g := (mkF mi 21 #[.val (.ref t), .val (.ref u)] [(.int 0), (.int 1), (.ref u), (.int (Int32.ofNat cs.length)), (.ref t)])) rfl (by rw [hml]; rfl) (argsL := [(.ref t), (.int (Int32.ofNat cs.length)), (.ref u), (.int 1), (.int 0)]) (rest := []) (lenOf pd_20 rfl) rfl (Nat.le_of_ble_eq_true rfl) (hb hby dj27_21) (fun vm₁ hvm => ⟨(by show (0 : Nat) ≤ _; decide), (by show (0 : Nat) ≤ _; decide), (Exists.imp (fun _ h => h.1) (own_ixq (U := s₁.setVm vm₁) (hZ.alike.trans hvm.alike) eE P0_ P1_ hl hd))⟩)
  dsimp only [Pt.U, Pt.locs, Pt.cells, Pt.slots] at X105 l105 y105 z105 st105 hh105 hv105
  obtain ⟨qx105, hq105, ha105⟩ := own_ixq (U := s₁.setVm vw105) (hZ.alike.trans hvw105.alike) eE P0_ P1_ hl hd
  have hvv105 := hv105 qx105 hq105
  rw [ha105] at hvv105
  subst hvv105 l105 y105 z105
  have hh105' : T105.heap = hE := hh105.trans eE
  obtain ⟨fs, hr, hrun, hended, hW, hsame⟩ := X105.leave (v := some (.int (-1))) (fun hq => by rw [Bd.returns] at hq; cases hq)
  refine ⟨_, _, pre0 _ ?_, hrun, hended, _, _, rfl, ?_, ⟨_, rfl⟩, hW, hsame.mono (by decide) (by decide)⟩
  · show SP pg ev below (s₁.setTop (mkF mi 0 #[.val (.ref t), .val (.ref u)] [])) _
    refine XS.aloadN X0.here hx rfl (hb hby dj27_0) rfl rfl ?_
    refine X0.arraylength hx (cell := cl101) (by rw [eE]; exact Ar101.1) (State.isArrayOf_alike hZ.alike Ar101.2.1) (g := (mkF mi 1 #[.val (.ref t), .val (.ref u)] [(.ref u)])) rfl (rest := []) rfl (hb hby dj27_1) _ ?_
    rw [len_of Sz101 Nn101]
    refine XS.ifYes X0.here hx rfl (pc0 := 2) (pc' := 7) rfl (hb hby dj27_2) rfl ((if0 _ _).trans (feq (by decide : ¬ ((1 : Int32) = (0 : Int32)))).2) (by decide) (by decide) ?_
    refine XS.aloadN X0.here hx rfl (hb hby dj27_7) rfl rfl ?_
    refine X0.arraylength hx (cell := cl102) (by rw [eE]; exact Ar102.1) (State.isArrayOf_alike hZ.alike Ar102.2.1) (g := (mkF mi 8 #[.val (.ref t), .val (.ref u)] [(.ref t)])) rfl (rest := []) rfl (hb hby dj27_8) _ ?_
    rw [len_of Sz102 Nn102]
    refine XS.ifYes X0.here hx rfl (pc0 := 9) (pc' := 14) rfl (hb hby dj27_9) rfl ((if0 _ _).trans (feq (own_ne0 hne hl)).2) (by decide) (by decide) ?_
    refine XS.aloadN X0.here hx rfl (hb hby dj27_14) rfl rfl ?_
    refine XS.aloadN X0.here hx rfl (hb hby dj27_15) rfl rfl ?_
    refine X0.arraylength hx (cell := cl103) (by rw [eE]; exact Ar103.1) (State.isArrayOf_alike hZ.alike Ar103.2.1) (g := (mkF mi 16 #[.val (.ref t), .val (.ref u)] [(.ref t), (.ref t)])) rfl (rest := [(.ref t)]) rfl (hb hby dj27_16) _ ?_
    rw [len_of Sz103 Nn103]
    refine XS.aloadN X0.here hx rfl (hb hby dj27_17) rfl rfl ?_
    refine XS.aloadN X0.here hx rfl (hb hby dj27_18) rfl rfl ?_
    refine X0.arraylength hx (cell := cl104) (by rw [eE]; exact Ar104.1) (State.isArrayOf_alike hZ.alike Ar104.2.1) (g := (mkF mi 19 #[.val (.ref t), .val (.ref u)] [(.ref u), (.ref u), (.int (Int32.ofNat cs.length)), (.ref t)])) rfl (rest := [(.ref u), (.int (Int32.ofNat cs.length)), (.ref t)]) rfl (hb hby dj27_19) _ ?_
    rw [len_of Sz104 Nn104]
    refine XS.iconst X0.here hx rfl (hb hby dj27_20) ?_
    refine st105 _ ?_
    show SP pg ev below (T105.setTop (mkF mi 24 #[.val (.ref t), .val (.ref u)] [(.int (-1))])) _
    exact retI X105 hx Bd.returns (hb hby dj27_24) hr
  · show Q_ixc_47 Z t u kt ku cs hE n0 _ T105.heap _
    rw [hh105']
    exact ⟨rfl, N0, rfl⟩
theorem dj28_0 : decode jc28 0 = .ok (.aload_n 0, 1) := by decide +kernel
theorem dj28_1 : decode jc28 1 = .ok (.invokevirtual 335, 3) := by decide +kernel
theorem dj28_4 : decode jc28 4 = .ok (.istore_n 2, 1) := by decide +kernel
theorem dj28_5 : decode jc28 5 = .ok (.iload_n 2, 1) := by decide +kernel
theorem dj28_6 : decode jc28 6 = .ok (.aload_n 1, 1) := by decide +kernel
theorem dj28_7 : decode jc28 7 = .ok (.invokevirtual 335, 3) := by decide +kernel
theorem dj28_10 : decode jc28 10 = .ok (.if_icmp .ne 36, 3) := by decide +kernel
theorem dj28_13 : decode jc28 13 = .ok (.aload_n 0, 1) := by decide +kernel
theorem dj28_14 : decode jc28 14 = .ok (.invokevirtual 492, 3) := by decide +kernel
theorem dj28_17 : decode jc28 17 = .ok (.ifCond .eq 17, 3) := by decide +kernel
theorem dj28_20 : decode jc28 20 = .ok (.aload_n 0, 1) := by decide +kernel
theorem dj28_21 : decode jc28 21 = .ok (.getfield 9, 3) := by decide +kernel
theorem dj28_24 : decode jc28 24 = .ok (.aload_n 1, 1) := by decide +kernel
theorem dj28_25 : decode jc28 25 = .ok (.getfield 9, 3) := by decide +kernel
theorem dj28_28 : decode jc28 28 = .ok (.invokestatic 647, 3) := by decide +kernel
theorem dj28_31 : decode jc28 31 = .ok (.goto 14, 3) := by decide +kernel
theorem dj28_45 : decode jc28 45 = .ok (.ireturn, 1) := by decide +kernel
theorem pd_21 : parseMethodDescriptor "([B[B)I" = some ⟨[(.array .byte), (.array .byte)], some .int⟩ := by decide +kernel
theorem ef_ixs_47 (mi : MethodId) (x : Addr) (y : Addr) : entryFrame mi #[(.ref x), (.ref y)] 3 = mkF mi 0 #[.val (.ref x), .val (.ref y), .unset] [] := rfl
def Q_ixs_47 (Z : State) (x y t u : Addr) (cs : List Int32) (zc : Int32) (hE : Heap) (n0 : Nat) (vv : Option Value) (hh : Heap) (LL : List Loc) : Prop := (vv = some (.int (-1))) ∧ (Fr n0 LL) ∧ (hh = hE)
theorem rm_ixs_47 (hw : HW a0 Z) (ws : List Cond) (x y t u : Addr) (cs : List Int32) (zc : Int32) (hE : Heap) (n0 : Nat) (O : Old Z n0 hE) (P0_ : LStr Z hE x t cs) (P1_ : LStr Z hE y u ([(47 : Int32)] : List Int32)) (D0_ : Sta Z Z.heap c1_ c6_ "Z" (.int zc)) (hne : cs.length ≠ 0) (hd : ∀ c ∈ cs, ¬ ((c.toInt8.toInt32) = (47 : Int32))) (hzc : ¬ (zc = (0 : Int32))) :
    MF la Z hE mn37 jc28 3 (some .int) ws (rr 3 0 0 95) #[(.ref x), (.ref y)] (Q_ixs_47 Z x y t u cs zc hE n0) := by
  refine MetFree.of_bodySF (plainFor_of_name pn_java_lang_String) hisR ?_
  intro pg ev sb mi gs below me cd s₁ Bd hml0 hPt hKt
  obtain ⟨rfl, hZ, hh⟩ := hPt
  have hx := Bd.exec
  have hby := Bd.bytes
  have hml : cd.maxLocals = 3 := hml0
  have hown : sb.vm.findClass c1_ = some mi.cls := findClass_of_methodNamed Bd.named
  have X0 : Stand pg la ev (rr 3 0 0 95) sb mi #[(.ref x), (.ref y)] below me cd s₁ [] 0 0 := Stand.of_body Bd
  have eE : s₁.heap = hE := by rw [← hh, Bd.state]; rfl
  have N0 := Fr.nil n0
  have pre0 : ∀ tt, SP pg ev below (s₁.setTop (mkF mi 0 #[.val (.ref x), .val (.ref y), .unset] [])) tt → SP pg ev below (s₁.setTop (entryFrame mi #[(.ref x), (.ref y)] 3)) tt := fun tt kk => castTop (ef_ixs_47 mi x y) kk
  obtain ⟨sE101, sV101, sC101, ⟨kb101, sK101⟩, sb101, sl101⟩ := id P0_
  obtain ⟨sE102, sV102, sC102, ⟨kb102, sK102⟩, sb102, sl102⟩ := id P1_
  have sK102' : Arv Z hE u kb102 .byte (1 : Int32) [(.int 47)] (.int 0) := sK102
  obtain ⟨cq103, kq103, q103a, q103b, q103c⟩ := isOf hZ eE sE101
  obtain ⟨v103, _, ⟨T103, L103, k103, n103⟩, -, X103, ⟨Lc103, hQ103, l103, y103, z103⟩, st103⟩ := X0.virtualBack hx (y := mn0) (z := mn0) hown (mvT hZ (wd98 hw)) (mvT hZ (wd99 hw)) (notFace_of_selects (args := #[]) (mvT hZ (wd101 hw))) (mvT hZ (wd101 hw)) (mvT hZ (wd100 hw)) (by decide) (backOf (W := 0) (rm_coder la Z a0 hw [] x zc hE n0 O sC101 D0_ (hzc : ¬ (zc = (0 : Int32)))) hZ (wd102 hw) (wd6 hw) (by decide) (by decide)) q103a q103c (g := (mkF mi 1 #[.val (.ref x), .val (.ref y), .unset] [(.ref x)])) rfl (by rw [hml]; rfl) (Steps.refl _) (argsL := []) (rest := []) (lenOf pd_0 rfl) rfl (Nat.le_of_ble_eq_true rfl) (hb hby dj28_1) (fun _ _ => ⟨rfl, eE, (by decide : 0 + 0 ≤ _), (by decide : 0 + 0 ≤ _)⟩)
  dsimp only [Pt.U, Pt.locs, Pt.cells, Pt.slots] at X103 l103 y103 z103 st103 hQ103
  subst l103 y103 z103
  obtain ⟨rfl, Nq103, ek103⟩ := hQ103
  have N103 := Fr.app N0 Nq103
  obtain ⟨cq104, kq104, q104a, q104b, q104c⟩ := isOf hZ ek103 sE102
  obtain ⟨v104, _, ⟨T104, L104, k104, n104⟩, -, X104, ⟨Lc104, hQ104, l104, y104, z104⟩, st104⟩ := X103.virtualBack hx (y := mn0) (z := mn0) hown (mvT hZ (wd98 hw)) (mvT hZ (wd99 hw)) (notFace_of_selects (args := #[]) (mvT hZ (wd101 hw))) (mvT hZ (wd101 hw)) (mvT hZ (wd100 hw)) (by decide) (backOf (W := 1) (rm_coder la Z a0 hw [] y zc hE n0 O sC102 D0_ (hzc : ¬ (zc = (0 : Int32)))) hZ (wd102 hw) (wd6 hw) (by decide) (by decide)) q104a q104c (g := (mkF mi 7 #[.val (.ref x), .val (.ref y), .val (.int 0)] [(.ref y), (.int 0)])) rfl (by rw [hml]; rfl) (Steps.refl _) (argsL := []) (rest := [(.int 0)]) (lenOf pd_0 rfl) rfl (Nat.le_of_ble_eq_true rfl) (hb hby dj28_7) (fun _ _ => ⟨rfl, ek103, (by decide : 0 + 0 ≤ _), (by decide : 0 + 0 ≤ _)⟩)
  dsimp only [Pt.U, Pt.locs, Pt.cells, Pt.slots] at X104 l104 y104 z104 st104 hQ104
  subst l104 y104 z104
  obtain ⟨rfl, Nq104, ek104⟩ := hQ104
  have N104 := Fr.app N103 Nq104
  obtain ⟨cq105, kq105, q105a, q105b, q105c⟩ := isOf hZ ek104 sE101
  obtain ⟨v105, _, ⟨T105, L105, k105, n105⟩, -, X105, ⟨Lc105, hQ105, l105, y105, z105⟩, st105⟩ := X104.virtualBack hx (y := mn33) (z := mn33) hown (mvT hZ (wd103 hw)) (mvT hZ (wd104 hw)) (notFace_of_selects (args := #[]) (mvT hZ (wd106 hw))) (mvT hZ (wd106 hw)) (mvT hZ (wd105 hw)) (by decide) (backOf (W := 0) (rm_isl1 la Z a0 hw [] x zc hE n0 O sC101 D0_ (hzc : ¬ (zc = (0 : Int32)))) hZ (wd107 hw) (wd6 hw) (by decide) (by decide)) q105a q105c (g := (mkF mi 14 #[.val (.ref x), .val (.ref y), .val (.int 0)] [(.ref x)])) rfl (by rw [hml]; rfl) (Steps.refl _) (argsL := []) (rest := []) (lenOf pd_14 rfl) rfl (Nat.le_of_ble_eq_true rfl) (hb hby dj28_14) (fun _ _ => ⟨rfl, ek104, (by decide : 0 + 0 ≤ _), (by decide : 0 + 0 ≤ _)⟩)
  dsimp only [Pt.U, Pt.locs, Pt.cells, Pt.slots] at X105 l105 y105 z105 st105 hQ105
  subst l105 y105 z105
  obtain ⟨rfl, Nq105, ek105⟩ := hQ105
  have N105 := Fr.app N104 Nq105
  obtain ⟨T106, X106, e106, st106⟩ := getF X105 hx hZ hown (host := "") (Or.inl (wd32 hw)) Via.refl ek105 sV101 (g := (mkF mi 21 #[.val (.ref x), .val (.ref y), .val (.int 0)] [(.ref x)])) rfl rfl (hb hby dj28_21)
  obtain ⟨T107, X107, e107, st107⟩ := getF X106 hx hZ hown (host := "") (Or.inl (wd32 hw)) Via.refl e106 sV102 (g := (mkF mi 25 #[.val (.ref x), .val (.ref y), .val (.int 0)] [(.ref y), (.ref t)])) rfl rfl (hb hby dj28_25)
  obtain ⟨v108, _, ⟨T108, L108, k108, n108⟩, -, X108, ⟨Lc108, hQ108, l108, y108, z108⟩, st108⟩ := Jvm.LawKit.callS X107 hx (y := mn36) hown (mvT hZ (wd108 hw)) (mvT hZ (wd109 hw)) (mvT hZ (wd39 hw)) (mvT hZ (wd110 hw)) (by decide) (backOf (W := 0) (rm_ixc_47 la Z a0 hw [] t u kb101 kb102 cs hE n0 O sK101 sK102' (sl101 : cs.length ≤ 4000) (hne : cs.length ≠ 0) (hd : ∀ c ∈ cs, ¬ ((c.toInt8.toInt32) = (47 : Int32)))) hZ (wd110 hw) (wd39 hw) (by decide) (by decide)) (g := (mkF mi 28 #[.val (.ref x), .val (.ref y), .val (.int 0)] [(.ref u), (.ref t)])) rfl (by rw [hml]; rfl) (argsL := [(.ref t), (.ref u)]) (rest := []) (lenOf pd_21 rfl) rfl (Nat.le_of_ble_eq_true rfl) (hb hby dj28_28) (fun _ _ => ⟨rfl, e107, (by decide : 0 + 0 ≤ _), (by decide : 0 + 0 ≤ _)⟩)
  dsimp only [Pt.U, Pt.locs, Pt.cells, Pt.slots] at X108 l108 y108 z108 st108 hQ108
  subst l108 y108 z108
  obtain ⟨rfl, Nq108, ek108⟩ := hQ108
  have N108 := Fr.app N105 Nq108
  obtain ⟨fs, hr, hrun, hended, hW, hsame⟩ := X108.leave (v := some (.int (-1))) (fun hq => by rw [Bd.returns] at hq; cases hq)
  refine ⟨_, _, pre0 _ ?_, hrun, hended, _, _, rfl, ?_, ⟨_, rfl⟩, hW, hsame.mono (by decide) (by decide)⟩
  · show SP pg ev below (s₁.setTop (mkF mi 0 #[.val (.ref x), .val (.ref y), .unset] [])) _
    refine XS.aloadN X0.here hx rfl (hb hby dj28_0) rfl rfl ?_
    refine st103.trans ?_
    refine XS.istoreN X103.here hx rfl (hb hby dj28_4) rfl (l' := #[.val (.ref x), .val (.ref y), .val (.int 0)]) rfl ?_
    refine XS.iloadN X103.here hx rfl (hb hby dj28_5) rfl ?_
    refine XS.aloadN X103.here hx rfl (hb hby dj28_6) rfl rfl ?_
    refine st104.trans ?_
    refine XS.icmpNo X104.here hx rfl (hb hby dj28_10) rfl (teq (rfl : (0 : Int32) = (0 : Int32))).2 ?_
    refine XS.aloadN X104.here hx rfl (hb hby dj28_13) rfl rfl ?_
    refine st105.trans ?_
    refine XS.ifNo X105.here hx rfl (hb hby dj28_17) rfl ((if0 _ _).trans (feq (by decide : ¬ ((1 : Int32) = (0 : Int32)))).1) ?_
    refine XS.aloadN X105.here hx rfl (hb hby dj28_20) rfl rfl ?_
    refine st106 _ ?_
    refine XS.aloadN X106.here hx rfl (hb hby dj28_24) rfl rfl ?_
    refine st107 _ ?_
    refine st108 _ ?_
    refine XS.goto X108.here hx rfl (pc0 := 31) (pc' := 45) rfl (hb hby dj28_31) (by decide) (by decide) ?_
    show SP pg ev below (T108.setTop (mkF mi 45 #[.val (.ref x), .val (.ref y), .val (.int 0)] [(.int (-1))])) _
    exact retI X108 hx Bd.returns (hb hby dj28_45) hr
  · show Q_ixs_47 Z x y t u cs zc hE n0 _ T108.heap _
    rw [ek108]
    exact ⟨rfl, N108, rfl⟩
theorem dj29_0 : decode jc29 0 = .ok (.aload_n 0, 1) := by decide +kernel
theorem dj29_1 : decode jc29 1 = .ok (.aload_n 1, 1) := by decide +kernel
theorem dj29_2 : decode jc29 2 = .ok (.invokeinterface 710 1, 5) := by decide +kernel
theorem dj29_7 : decode jc29 7 = .ok (.invokevirtual 711, 3) := by decide +kernel
theorem dj29_10 : decode jc29 10 = .ok (.ifCond .lt 7, 3) := by decide +kernel
theorem dj29_17 : decode jc29 17 = .ok (.iconst 0, 1) := by decide +kernel
theorem dj29_18 : decode jc29 18 = .ok (.ireturn, 1) := by decide +kernel
theorem pd_22 : parseMethodDescriptor "()Ljava/lang/String;" = some ⟨[], some (.object "java/lang/String")⟩ := by decide +kernel
theorem pd_23 : parseMethodDescriptor "(Ljava/lang/String;)I" = some ⟨[(.object "java/lang/String")], some .int⟩ := by decide +kernel
theorem ef_con_47 (mi : MethodId) (x : Addr) (y : Addr) : entryFrame mi #[(.ref x), (.ref y)] 2 = mkF mi 0 #[.val (.ref x), .val (.ref y)] [] := rfl
def Q_con_47 (Z : State) (x y t u : Addr) (cs : List Int32) (zc : Int32) (hE : Heap) (n0 : Nat) (vv : Option Value) (hh : Heap) (LL : List Loc) : Prop := (vv = some (.int 0)) ∧ (Fr n0 LL) ∧ (hh = hE)
theorem rm_con_47 (hw : HW a0 Z) (ws : List Cond) (x y t u : Addr) (cs : List Int32) (zc : Int32) (hE : Heap) (n0 : Nat) (O : Old Z n0 hE) (P0_ : LStr Z hE x t cs) (P1_ : LStr Z hE y u ([(47 : Int32)] : List Int32)) (D0_ : Sta Z Z.heap c1_ c6_ "Z" (.int zc)) (hne : cs.length ≠ 0) (hd : ∀ c ∈ cs, ¬ ((c.toInt8.toInt32) = (47 : Int32))) (hzc : ¬ (zc = (0 : Int32))) :
    MF la Z hE mn39 jc29 2 (some .boolean) ws (rr 4 0 0 109) #[(.ref x), (.ref y)] (Q_con_47 Z x y t u cs zc hE n0) := by
  refine MetFree.of_bodySF (plainFor_of_name pn_java_lang_String) hisR ?_
  intro pg ev sb mi gs below me cd s₁ Bd hml0 hPt hKt
  obtain ⟨rfl, hZ, hh⟩ := hPt
  have hx := Bd.exec
  have hby := Bd.bytes
  have hml : cd.maxLocals = 2 := hml0
  have hown : sb.vm.findClass c1_ = some mi.cls := findClass_of_methodNamed Bd.named
  have X0 : Stand pg la ev (rr 4 0 0 109) sb mi #[(.ref x), (.ref y)] below me cd s₁ [] 0 0 := Stand.of_body Bd
  have eE : s₁.heap = hE := by rw [← hh, Bd.state]; rfl
  have N0 := Fr.nil n0
  have pre0 : ∀ tt, SP pg ev below (s₁.setTop (mkF mi 0 #[.val (.ref x), .val (.ref y)] [])) tt → SP pg ev below (s₁.setTop (entryFrame mi #[(.ref x), (.ref y)] 2)) tt := fun tt kk => castTop (ef_con_47 mi x y) kk
  obtain ⟨sE101, sV101, sC101, ⟨kb101, sK101⟩, sb101, sl101⟩ := id P0_
  obtain ⟨sE102, sV102, sC102, ⟨kb102, sK102⟩, sb102, sl102⟩ := id P1_
  have sK102' : Arv Z hE u kb102 .byte (1 : Int32) [(.int 47)] (.int 0) := sK102
  obtain ⟨cq103, kq103, q103a, q103b, q103c⟩ := isOf hZ eE sE102
  obtain ⟨v103, _, ⟨T103, L103, k103, n103⟩, -, X103, ⟨Lc103, hQ103, l103, y103, z103⟩, st103⟩ := X0.interfaceBack hx (xi := mn38) (y := mn32) hown (mvT hZ (wd84 hw)) (mvT hZ (wd85 hw)) (mvT hZ (wd86 hw)) (mvT hZ (wd87 hw)) (mvT hZ (wd88 hw)) (mvT hZ (wd89 hw)) (mvT hZ (wd90 hw)) (mvT hZ (wd91 hw)) (by decide) (backOf (W := 1) (rm_sts la Z a0 hw [] y hE n0 O) hZ (wd92 hw) (wd6 hw) (by decide) (by decide)) q103a q103b q103c (g := (mkF mi 2 #[.val (.ref x), .val (.ref y)] [(.ref y), (.ref x)])) rfl (by rw [hml]; rfl) (Steps.refl _) (argsL := []) (rest := [(.ref x)]) (lenOf pd_22 rfl) rfl (Nat.le_of_ble_eq_true rfl) (hb hby dj29_2) (fun _ _ => ⟨rfl, eE, (by decide : 0 + 0 ≤ _), (by decide : 0 + 0 ≤ _)⟩)
  dsimp only [Pt.U, Pt.locs, Pt.cells, Pt.slots] at X103 l103 y103 z103 st103 hQ103
  subst l103 y103 z103
  obtain ⟨rfl, Nq103, ek103⟩ := hQ103
  have N103 := Fr.app N0 Nq103
  obtain ⟨cq104, kq104, q104a, q104b, q104c⟩ := isOf hZ ek103 sE101
  obtain ⟨v104, _, ⟨T104, L104, k104, n104⟩, -, X104, ⟨Lc104, hQ104, l104, y104, z104⟩, st104⟩ := X103.virtualBack hx (y := mn37) (z := mn37) hown (mvT hZ (wd93 hw)) (mvT hZ (wd94 hw)) (notFace_of_selects (args := #[]) (mvT hZ (wd96 hw))) (mvT hZ (wd96 hw)) (mvT hZ (wd95 hw)) (by decide) (backOf (W := 0) (rm_ixs_47 la Z a0 hw [] x y t u cs zc hE n0 O P0_ P1_ D0_ (hne : cs.length ≠ 0) (hd : ∀ c ∈ cs, ¬ ((c.toInt8.toInt32) = (47 : Int32))) (hzc : ¬ (zc = (0 : Int32)))) hZ (wd97 hw) (wd6 hw) (by decide) (by decide)) q104a q104c (g := (mkF mi 7 #[.val (.ref x), .val (.ref y)] [(.ref y), (.ref x)])) rfl (by rw [hml]; rfl) (Steps.refl _) (argsL := [(.ref y)]) (rest := []) (lenOf pd_23 rfl) rfl (Nat.le_of_ble_eq_true rfl) (hb hby dj29_7) (fun _ _ => ⟨rfl, ek103, (by decide : 0 + 0 ≤ _), (by decide : 0 + 0 ≤ _)⟩)
  dsimp only [Pt.U, Pt.locs, Pt.cells, Pt.slots] at X104 l104 y104 z104 st104 hQ104
  subst l104 y104 z104
  obtain ⟨rfl, Nq104, ek104⟩ := hQ104
  have N104 := Fr.app N103 Nq104
  obtain ⟨fs, hr, hrun, hended, hW, hsame⟩ := X104.leave (v := some (.int 0)) (fun hq => by rw [Bd.returns] at hq; cases hq)
  refine ⟨_, _, pre0 _ ?_, hrun, hended, _, _, rfl, ?_, ⟨_, rfl⟩, hW, hsame.mono (by decide) (by decide)⟩
  · show SP pg ev below (s₁.setTop (mkF mi 0 #[.val (.ref x), .val (.ref y)] [])) _
    refine XS.aloadN X0.here hx rfl (hb hby dj29_0) rfl rfl ?_
    refine XS.aloadN X0.here hx rfl (hb hby dj29_1) rfl rfl ?_
    refine st103.trans ?_
    refine st104.trans ?_
    refine XS.ifYes X104.here hx rfl (pc0 := 10) (pc' := 17) rfl (hb hby dj29_10) rfl ((if0 _ _).trans (tlt (by decide : (-1 : Int32) < (0 : Int32))).1) (by decide) (by decide) ?_
    refine XS.iconst X104.here hx rfl (hb hby dj29_17) ?_
    show SP pg ev below (T104.setTop (mkF mi 18 #[.val (.ref x), .val (.ref y)] [(.int 0)])) _
    exact retN X104 hx (t := .boolean) Bd.returns (by simp) (hb hby dj29_18) hr
  · show Q_con_47 Z x y t u cs zc hE n0 _ T104.heap _
    rw [ek104]
    exact ⟨rfl, N104, rfl⟩
theorem ef_ixc_33 (mi : MethodId) (t : Addr) (u : Addr) : entryFrame mi #[(.ref t), (.ref u)] 2 = mkF mi 0 #[.val (.ref t), .val (.ref u)] [] := rfl
def Q_ixc_33 (Z : State) (t u : Addr) (kt ku : ClassId) (cs : List Int32) (hE : Heap) (n0 : Nat) (vv : Option Value) (hh : Heap) (LL : List Loc) : Prop := (vv = some (.int (-1))) ∧ (Fr n0 LL) ∧ (hh = hE)
theorem rm_ixc_33 (hw : HW a0 Z) (ws : List Cond) (t u : Addr) (kt ku : ClassId) (cs : List Int32) (hE : Heap) (n0 : Nat) (O : Old Z n0 hE) (P0_ : Arv Z hE t kt .byte (Int32.ofNat cs.length) (cs.map fun c => Value.int c.toInt8.toInt32) (.int 0)) (P1_ : Arv Z hE u ku .byte (1 : Int32) [(.int 33)] (.int 0)) (hl : cs.length ≤ 4000) (hne : cs.length ≠ 0) (hd : ∀ c ∈ cs, ¬ ((c.toInt8.toInt32) = (33 : Int32))) :
    MF la Z hE mn36 jc27 2 (some .int) ws (rr 2 0 0 82) #[(.ref t), (.ref u)] (Q_ixc_33 Z t u kt ku cs hE n0) := by
  refine MetFree.of_bodySF (plainFor_of_name pn_java_lang_StringLatin1) hisR ?_
  intro pg ev sb mi gs below me cd s₁ Bd hml0 hPt hKt
  obtain ⟨rfl, hZ, hh⟩ := hPt
  have hx := Bd.exec
  have hby := Bd.bytes
  have hml : cd.maxLocals = 2 := hml0
  have hown : sb.vm.findClass c9_ = some mi.cls := findClass_of_methodNamed Bd.named
  have X0 : Stand pg la ev (rr 2 0 0 82) sb mi #[(.ref t), (.ref u)] below me cd s₁ [] 0 0 := Stand.of_body Bd
  have eE : s₁.heap = hE := by rw [← hh, Bd.state]; rfl
  have N0 := Fr.nil n0
  have pre0 : ∀ tt, SP pg ev below (s₁.setTop (mkF mi 0 #[.val (.ref t), .val (.ref u)] [])) tt → SP pg ev below (s₁.setTop (entryFrame mi #[(.ref t), (.ref u)] 2)) tt := fun tt kk => castTop (ef_ixc_33 mi t u) kk
  obtain ⟨cl101, Ar101, -, Sz101, Nn101, -, -⟩ := id P1_
  obtain ⟨cl102, Ar102, -, Sz102, Nn102, -, -⟩ := id P0_
  obtain ⟨cl103, Ar103, -, Sz103, Nn103, -, -⟩ := id P0_
  obtain ⟨cl104, Ar104, -, Sz104, Nn104, -, -⟩ := id P1_
  obtain ⟨v105, vw105, ⟨T105, L105, k105, n105⟩, hvw105, X105, ⟨⟨hh105, l105, y105, z105⟩, hv105⟩, st105⟩ := Jvm.LawKit.callS X0 hx (y := mn35) hown (mvT hZ (wd111 hw)) (mvT hZ (wd112 hw)) (mvT hZ (wd39 hw)) (mvT hZ (wd113 hw)) (by decide) (Jvm.Free.Str.IXS.pays (W := 0) (by decide) (by decide) (own_ixtab hw hZ) (mvT hZ (wd39 hw))) (g := (mkF mi 21 #[.val (.ref t), .val (.ref u)] [(.int 0), (.int 1), (.ref u), (.int (Int32.ofNat cs.length)), (.ref t)])) rfl (by rw [hml]; rfl) (argsL := [(.ref t), (.int (Int32.ofNat cs.length)), (.ref u), (.int 1), (.int 0)]) (rest := []) (lenOf pd_20 rfl) rfl (Nat.le_of_ble_eq_true rfl) (hb hby dj27_21) (fun vm₁ hvm => ⟨(by show (0 : Nat) ≤ _; decide), (by show (0 : Nat) ≤ _; decide), (Exists.imp (fun _ h => h.1) (own_ixq (U := s₁.setVm vm₁) (hZ.alike.trans hvm.alike) eE P0_ P1_ hl hd))⟩)
  dsimp only [Pt.U, Pt.locs, Pt.cells, Pt.slots] at X105 l105 y105 z105 st105 hh105 hv105
  obtain ⟨qx105, hq105, ha105⟩ := own_ixq (U := s₁.setVm vw105) (hZ.alike.trans hvw105.alike) eE P0_ P1_ hl hd
  have hvv105 := hv105 qx105 hq105
  rw [ha105] at hvv105
  subst hvv105 l105 y105 z105
  have hh105' : T105.heap = hE := hh105.trans eE
  obtain ⟨fs, hr, hrun, hended, hW, hsame⟩ := X105.leave (v := some (.int (-1))) (fun hq => by rw [Bd.returns] at hq; cases hq)
  refine ⟨_, _, pre0 _ ?_, hrun, hended, _, _, rfl, ?_, ⟨_, rfl⟩, hW, hsame.mono (by decide) (by decide)⟩
  · show SP pg ev below (s₁.setTop (mkF mi 0 #[.val (.ref t), .val (.ref u)] [])) _
    refine XS.aloadN X0.here hx rfl (hb hby dj27_0) rfl rfl ?_
    refine X0.arraylength hx (cell := cl101) (by rw [eE]; exact Ar101.1) (State.isArrayOf_alike hZ.alike Ar101.2.1) (g := (mkF mi 1 #[.val (.ref t), .val (.ref u)] [(.ref u)])) rfl (rest := []) rfl (hb hby dj27_1) _ ?_
    rw [len_of Sz101 Nn101]
    refine XS.ifYes X0.here hx rfl (pc0 := 2) (pc' := 7) rfl (hb hby dj27_2) rfl ((if0 _ _).trans (feq (by decide : ¬ ((1 : Int32) = (0 : Int32)))).2) (by decide) (by decide) ?_
    refine XS.aloadN X0.here hx rfl (hb hby dj27_7) rfl rfl ?_
    refine X0.arraylength hx (cell := cl102) (by rw [eE]; exact Ar102.1) (State.isArrayOf_alike hZ.alike Ar102.2.1) (g := (mkF mi 8 #[.val (.ref t), .val (.ref u)] [(.ref t)])) rfl (rest := []) rfl (hb hby dj27_8) _ ?_
    rw [len_of Sz102 Nn102]
    refine XS.ifYes X0.here hx rfl (pc0 := 9) (pc' := 14) rfl (hb hby dj27_9) rfl ((if0 _ _).trans (feq (own_ne0 hne hl)).2) (by decide) (by decide) ?_
    refine XS.aloadN X0.here hx rfl (hb hby dj27_14) rfl rfl ?_
    refine XS.aloadN X0.here hx rfl (hb hby dj27_15) rfl rfl ?_
    refine X0.arraylength hx (cell := cl103) (by rw [eE]; exact Ar103.1) (State.isArrayOf_alike hZ.alike Ar103.2.1) (g := (mkF mi 16 #[.val (.ref t), .val (.ref u)] [(.ref t), (.ref t)])) rfl (rest := [(.ref t)]) rfl (hb hby dj27_16) _ ?_
    rw [len_of Sz103 Nn103]
    refine XS.aloadN X0.here hx rfl (hb hby dj27_17) rfl rfl ?_
    refine XS.aloadN X0.here hx rfl (hb hby dj27_18) rfl rfl ?_
    refine X0.arraylength hx (cell := cl104) (by rw [eE]; exact Ar104.1) (State.isArrayOf_alike hZ.alike Ar104.2.1) (g := (mkF mi 19 #[.val (.ref t), .val (.ref u)] [(.ref u), (.ref u), (.int (Int32.ofNat cs.length)), (.ref t)])) rfl (rest := [(.ref u), (.int (Int32.ofNat cs.length)), (.ref t)]) rfl (hb hby dj27_19) _ ?_
    rw [len_of Sz104 Nn104]
    refine XS.iconst X0.here hx rfl (hb hby dj27_20) ?_
    refine st105 _ ?_
    show SP pg ev below (T105.setTop (mkF mi 24 #[.val (.ref t), .val (.ref u)] [(.int (-1))])) _
    exact retI X105 hx Bd.returns (hb hby dj27_24) hr
  · show Q_ixc_33 Z t u kt ku cs hE n0 _ T105.heap _
    rw [hh105']
    exact ⟨rfl, N0, rfl⟩
theorem ef_ixs_33 (mi : MethodId) (x : Addr) (y : Addr) : entryFrame mi #[(.ref x), (.ref y)] 3 = mkF mi 0 #[.val (.ref x), .val (.ref y), .unset] [] := rfl
def Q_ixs_33 (Z : State) (x y t u : Addr) (cs : List Int32) (zc : Int32) (hE : Heap) (n0 : Nat) (vv : Option Value) (hh : Heap) (LL : List Loc) : Prop := (vv = some (.int (-1))) ∧ (Fr n0 LL) ∧ (hh = hE)
theorem rm_ixs_33 (hw : HW a0 Z) (ws : List Cond) (x y t u : Addr) (cs : List Int32) (zc : Int32) (hE : Heap) (n0 : Nat) (O : Old Z n0 hE) (P0_ : LStr Z hE x t cs) (P1_ : LStr Z hE y u ([(33 : Int32)] : List Int32)) (D0_ : Sta Z Z.heap c1_ c6_ "Z" (.int zc)) (hne : cs.length ≠ 0) (hd : ∀ c ∈ cs, ¬ ((c.toInt8.toInt32) = (33 : Int32))) (hzc : ¬ (zc = (0 : Int32))) :
    MF la Z hE mn37 jc28 3 (some .int) ws (rr 3 0 0 95) #[(.ref x), (.ref y)] (Q_ixs_33 Z x y t u cs zc hE n0) := by
  refine MetFree.of_bodySF (plainFor_of_name pn_java_lang_String) hisR ?_
  intro pg ev sb mi gs below me cd s₁ Bd hml0 hPt hKt
  obtain ⟨rfl, hZ, hh⟩ := hPt
  have hx := Bd.exec
  have hby := Bd.bytes
  have hml : cd.maxLocals = 3 := hml0
  have hown : sb.vm.findClass c1_ = some mi.cls := findClass_of_methodNamed Bd.named
  have X0 : Stand pg la ev (rr 3 0 0 95) sb mi #[(.ref x), (.ref y)] below me cd s₁ [] 0 0 := Stand.of_body Bd
  have eE : s₁.heap = hE := by rw [← hh, Bd.state]; rfl
  have N0 := Fr.nil n0
  have pre0 : ∀ tt, SP pg ev below (s₁.setTop (mkF mi 0 #[.val (.ref x), .val (.ref y), .unset] [])) tt → SP pg ev below (s₁.setTop (entryFrame mi #[(.ref x), (.ref y)] 3)) tt := fun tt kk => castTop (ef_ixs_33 mi x y) kk
  obtain ⟨sE101, sV101, sC101, ⟨kb101, sK101⟩, sb101, sl101⟩ := id P0_
  obtain ⟨sE102, sV102, sC102, ⟨kb102, sK102⟩, sb102, sl102⟩ := id P1_
  have sK102' : Arv Z hE u kb102 .byte (1 : Int32) [(.int 33)] (.int 0) := sK102
  obtain ⟨cq103, kq103, q103a, q103b, q103c⟩ := isOf hZ eE sE101
  obtain ⟨v103, _, ⟨T103, L103, k103, n103⟩, -, X103, ⟨Lc103, hQ103, l103, y103, z103⟩, st103⟩ := X0.virtualBack hx (y := mn0) (z := mn0) hown (mvT hZ (wd98 hw)) (mvT hZ (wd99 hw)) (notFace_of_selects (args := #[]) (mvT hZ (wd101 hw))) (mvT hZ (wd101 hw)) (mvT hZ (wd100 hw)) (by decide) (backOf (W := 0) (rm_coder la Z a0 hw [] x zc hE n0 O sC101 D0_ (hzc : ¬ (zc = (0 : Int32)))) hZ (wd102 hw) (wd6 hw) (by decide) (by decide)) q103a q103c (g := (mkF mi 1 #[.val (.ref x), .val (.ref y), .unset] [(.ref x)])) rfl (by rw [hml]; rfl) (Steps.refl _) (argsL := []) (rest := []) (lenOf pd_0 rfl) rfl (Nat.le_of_ble_eq_true rfl) (hb hby dj28_1) (fun _ _ => ⟨rfl, eE, (by decide : 0 + 0 ≤ _), (by decide : 0 + 0 ≤ _)⟩)
  dsimp only [Pt.U, Pt.locs, Pt.cells, Pt.slots] at X103 l103 y103 z103 st103 hQ103
  subst l103 y103 z103
  obtain ⟨rfl, Nq103, ek103⟩ := hQ103
  have N103 := Fr.app N0 Nq103
  obtain ⟨cq104, kq104, q104a, q104b, q104c⟩ := isOf hZ ek103 sE102
  obtain ⟨v104, _, ⟨T104, L104, k104, n104⟩, -, X104, ⟨Lc104, hQ104, l104, y104, z104⟩, st104⟩ := X103.virtualBack hx (y := mn0) (z := mn0) hown (mvT hZ (wd98 hw)) (mvT hZ (wd99 hw)) (notFace_of_selects (args := #[]) (mvT hZ (wd101 hw))) (mvT hZ (wd101 hw)) (mvT hZ (wd100 hw)) (by decide) (backOf (W := 1) (rm_coder la Z a0 hw [] y zc hE n0 O sC102 D0_ (hzc : ¬ (zc = (0 : Int32)))) hZ (wd102 hw) (wd6 hw) (by decide) (by decide)) q104a q104c (g := (mkF mi 7 #[.val (.ref x), .val (.ref y), .val (.int 0)] [(.ref y), (.int 0)])) rfl (by rw [hml]; rfl) (Steps.refl _) (argsL := []) (rest := [(.int 0)]) (lenOf pd_0 rfl) rfl (Nat.le_of_ble_eq_true rfl) (hb hby dj28_7) (fun _ _ => ⟨rfl, ek103, (by decide : 0 + 0 ≤ _), (by decide : 0 + 0 ≤ _)⟩)
  dsimp only [Pt.U, Pt.locs, Pt.cells, Pt.slots] at X104 l104 y104 z104 st104 hQ104
  subst l104 y104 z104
  obtain ⟨rfl, Nq104, ek104⟩ := hQ104
  have N104 := Fr.app N103 Nq104
  obtain ⟨cq105, kq105, q105a, q105b, q105c⟩ := isOf hZ ek104 sE101
  obtain ⟨v105, _, ⟨T105, L105, k105, n105⟩, -, X105, ⟨Lc105, hQ105, l105, y105, z105⟩, st105⟩ := X104.virtualBack hx (y := mn33) (z := mn33) hown (mvT hZ (wd103 hw)) (mvT hZ (wd104 hw)) (notFace_of_selects (args := #[]) (mvT hZ (wd106 hw))) (mvT hZ (wd106 hw)) (mvT hZ (wd105 hw)) (by decide) (backOf (W := 0) (rm_isl1 la Z a0 hw [] x zc hE n0 O sC101 D0_ (hzc : ¬ (zc = (0 : Int32)))) hZ (wd107 hw) (wd6 hw) (by decide) (by decide)) q105a q105c (g := (mkF mi 14 #[.val (.ref x), .val (.ref y), .val (.int 0)] [(.ref x)])) rfl (by rw [hml]; rfl) (Steps.refl _) (argsL := []) (rest := []) (lenOf pd_14 rfl) rfl (Nat.le_of_ble_eq_true rfl) (hb hby dj28_14) (fun _ _ => ⟨rfl, ek104, (by decide : 0 + 0 ≤ _), (by decide : 0 + 0 ≤ _)⟩)
  dsimp only [Pt.U, Pt.locs, Pt.cells, Pt.slots] at X105 l105 y105 z105 st105 hQ105
  subst l105 y105 z105
  obtain ⟨rfl, Nq105, ek105⟩ := hQ105
  have N105 := Fr.app N104 Nq105
  obtain ⟨T106, X106, e106, st106⟩ := getF X105 hx hZ hown (host := "") (Or.inl (wd32 hw)) Via.refl ek105 sV101 (g := (mkF mi 21 #[.val (.ref x), .val (.ref y), .val (.int 0)] [(.ref x)])) rfl rfl (hb hby dj28_21)
  obtain ⟨T107, X107, e107, st107⟩ := getF X106 hx hZ hown (host := "") (Or.inl (wd32 hw)) Via.refl e106 sV102 (g := (mkF mi 25 #[.val (.ref x), .val (.ref y), .val (.int 0)] [(.ref y), (.ref t)])) rfl rfl (hb hby dj28_25)
  obtain ⟨v108, _, ⟨T108, L108, k108, n108⟩, -, X108, ⟨Lc108, hQ108, l108, y108, z108⟩, st108⟩ := Jvm.LawKit.callS X107 hx (y := mn36) hown (mvT hZ (wd108 hw)) (mvT hZ (wd109 hw)) (mvT hZ (wd39 hw)) (mvT hZ (wd110 hw)) (by decide) (backOf (W := 0) (rm_ixc_33 la Z a0 hw [] t u kb101 kb102 cs hE n0 O sK101 sK102' (sl101 : cs.length ≤ 4000) (hne : cs.length ≠ 0) (hd : ∀ c ∈ cs, ¬ ((c.toInt8.toInt32) = (33 : Int32)))) hZ (wd110 hw) (wd39 hw) (by decide) (by decide)) (g := (mkF mi 28 #[.val (.ref x), .val (.ref y), .val (.int 0)] [(.ref u), (.ref t)])) rfl (by rw [hml]; rfl) (argsL := [(.ref t), (.ref u)]) (rest := []) (lenOf pd_21 rfl) rfl (Nat.le_of_ble_eq_true rfl) (hb hby dj28_28) (fun _ _ => ⟨rfl, e107, (by decide : 0 + 0 ≤ _), (by decide : 0 + 0 ≤ _)⟩)
  dsimp only [Pt.U, Pt.locs, Pt.cells, Pt.slots] at X108 l108 y108 z108 st108 hQ108
  subst l108 y108 z108
  obtain ⟨rfl, Nq108, ek108⟩ := hQ108
  have N108 := Fr.app N105 Nq108
  obtain ⟨fs, hr, hrun, hended, hW, hsame⟩ := X108.leave (v := some (.int (-1))) (fun hq => by rw [Bd.returns] at hq; cases hq)
  refine ⟨_, _, pre0 _ ?_, hrun, hended, _, _, rfl, ?_, ⟨_, rfl⟩, hW, hsame.mono (by decide) (by decide)⟩
  · show SP pg ev below (s₁.setTop (mkF mi 0 #[.val (.ref x), .val (.ref y), .unset] [])) _
    refine XS.aloadN X0.here hx rfl (hb hby dj28_0) rfl rfl ?_
    refine st103.trans ?_
    refine XS.istoreN X103.here hx rfl (hb hby dj28_4) rfl (l' := #[.val (.ref x), .val (.ref y), .val (.int 0)]) rfl ?_
    refine XS.iloadN X103.here hx rfl (hb hby dj28_5) rfl ?_
    refine XS.aloadN X103.here hx rfl (hb hby dj28_6) rfl rfl ?_
    refine st104.trans ?_
    refine XS.icmpNo X104.here hx rfl (hb hby dj28_10) rfl (teq (rfl : (0 : Int32) = (0 : Int32))).2 ?_
    refine XS.aloadN X104.here hx rfl (hb hby dj28_13) rfl rfl ?_
    refine st105.trans ?_
    refine XS.ifNo X105.here hx rfl (hb hby dj28_17) rfl ((if0 _ _).trans (feq (by decide : ¬ ((1 : Int32) = (0 : Int32)))).1) ?_
    refine XS.aloadN X105.here hx rfl (hb hby dj28_20) rfl rfl ?_
    refine st106 _ ?_
    refine XS.aloadN X106.here hx rfl (hb hby dj28_24) rfl rfl ?_
    refine st107 _ ?_
    refine st108 _ ?_
    refine XS.goto X108.here hx rfl (pc0 := 31) (pc' := 45) rfl (hb hby dj28_31) (by decide) (by decide) ?_
    show SP pg ev below (T108.setTop (mkF mi 45 #[.val (.ref x), .val (.ref y), .val (.int 0)] [(.int (-1))])) _
    exact retI X108 hx Bd.returns (hb hby dj28_45) hr
  · show Q_ixs_33 Z x y t u cs zc hE n0 _ T108.heap _
    rw [ek108]
    exact ⟨rfl, N108, rfl⟩
theorem ef_con_33 (mi : MethodId) (x : Addr) (y : Addr) : entryFrame mi #[(.ref x), (.ref y)] 2 = mkF mi 0 #[.val (.ref x), .val (.ref y)] [] := rfl
def Q_con_33 (Z : State) (x y t u : Addr) (cs : List Int32) (zc : Int32) (hE : Heap) (n0 : Nat) (vv : Option Value) (hh : Heap) (LL : List Loc) : Prop := (vv = some (.int 0)) ∧ (Fr n0 LL) ∧ (hh = hE)
theorem rm_con_33 (hw : HW a0 Z) (ws : List Cond) (x y t u : Addr) (cs : List Int32) (zc : Int32) (hE : Heap) (n0 : Nat) (O : Old Z n0 hE) (P0_ : LStr Z hE x t cs) (P1_ : LStr Z hE y u ([(33 : Int32)] : List Int32)) (D0_ : Sta Z Z.heap c1_ c6_ "Z" (.int zc)) (hne : cs.length ≠ 0) (hd : ∀ c ∈ cs, ¬ ((c.toInt8.toInt32) = (33 : Int32))) (hzc : ¬ (zc = (0 : Int32))) :
    MF la Z hE mn39 jc29 2 (some .boolean) ws (rr 4 0 0 109) #[(.ref x), (.ref y)] (Q_con_33 Z x y t u cs zc hE n0) := by
  refine MetFree.of_bodySF (plainFor_of_name pn_java_lang_String) hisR ?_
  intro pg ev sb mi gs below me cd s₁ Bd hml0 hPt hKt
  obtain ⟨rfl, hZ, hh⟩ := hPt
  have hx := Bd.exec
  have hby := Bd.bytes
  have hml : cd.maxLocals = 2 := hml0
  have hown : sb.vm.findClass c1_ = some mi.cls := findClass_of_methodNamed Bd.named
  have X0 : Stand pg la ev (rr 4 0 0 109) sb mi #[(.ref x), (.ref y)] below me cd s₁ [] 0 0 := Stand.of_body Bd
  have eE : s₁.heap = hE := by rw [← hh, Bd.state]; rfl
  have N0 := Fr.nil n0
  have pre0 : ∀ tt, SP pg ev below (s₁.setTop (mkF mi 0 #[.val (.ref x), .val (.ref y)] [])) tt → SP pg ev below (s₁.setTop (entryFrame mi #[(.ref x), (.ref y)] 2)) tt := fun tt kk => castTop (ef_con_33 mi x y) kk
  obtain ⟨sE101, sV101, sC101, ⟨kb101, sK101⟩, sb101, sl101⟩ := id P0_
  obtain ⟨sE102, sV102, sC102, ⟨kb102, sK102⟩, sb102, sl102⟩ := id P1_
  have sK102' : Arv Z hE u kb102 .byte (1 : Int32) [(.int 33)] (.int 0) := sK102
  obtain ⟨cq103, kq103, q103a, q103b, q103c⟩ := isOf hZ eE sE102
  obtain ⟨v103, _, ⟨T103, L103, k103, n103⟩, -, X103, ⟨Lc103, hQ103, l103, y103, z103⟩, st103⟩ := X0.interfaceBack hx (xi := mn38) (y := mn32) hown (mvT hZ (wd84 hw)) (mvT hZ (wd85 hw)) (mvT hZ (wd86 hw)) (mvT hZ (wd87 hw)) (mvT hZ (wd88 hw)) (mvT hZ (wd89 hw)) (mvT hZ (wd90 hw)) (mvT hZ (wd91 hw)) (by decide) (backOf (W := 1) (rm_sts la Z a0 hw [] y hE n0 O) hZ (wd92 hw) (wd6 hw) (by decide) (by decide)) q103a q103b q103c (g := (mkF mi 2 #[.val (.ref x), .val (.ref y)] [(.ref y), (.ref x)])) rfl (by rw [hml]; rfl) (Steps.refl _) (argsL := []) (rest := [(.ref x)]) (lenOf pd_22 rfl) rfl (Nat.le_of_ble_eq_true rfl) (hb hby dj29_2) (fun _ _ => ⟨rfl, eE, (by decide : 0 + 0 ≤ _), (by decide : 0 + 0 ≤ _)⟩)
  dsimp only [Pt.U, Pt.locs, Pt.cells, Pt.slots] at X103 l103 y103 z103 st103 hQ103
  subst l103 y103 z103
  obtain ⟨rfl, Nq103, ek103⟩ := hQ103
  have N103 := Fr.app N0 Nq103
  obtain ⟨cq104, kq104, q104a, q104b, q104c⟩ := isOf hZ ek103 sE101
  obtain ⟨v104, _, ⟨T104, L104, k104, n104⟩, -, X104, ⟨Lc104, hQ104, l104, y104, z104⟩, st104⟩ := X103.virtualBack hx (y := mn37) (z := mn37) hown (mvT hZ (wd93 hw)) (mvT hZ (wd94 hw)) (notFace_of_selects (args := #[]) (mvT hZ (wd96 hw))) (mvT hZ (wd96 hw)) (mvT hZ (wd95 hw)) (by decide) (backOf (W := 0) (rm_ixs_33 la Z a0 hw [] x y t u cs zc hE n0 O P0_ P1_ D0_ (hne : cs.length ≠ 0) (hd : ∀ c ∈ cs, ¬ ((c.toInt8.toInt32) = (33 : Int32))) (hzc : ¬ (zc = (0 : Int32)))) hZ (wd97 hw) (wd6 hw) (by decide) (by decide)) q104a q104c (g := (mkF mi 7 #[.val (.ref x), .val (.ref y)] [(.ref y), (.ref x)])) rfl (by rw [hml]; rfl) (Steps.refl _) (argsL := [(.ref y)]) (rest := []) (lenOf pd_23 rfl) rfl (Nat.le_of_ble_eq_true rfl) (hb hby dj29_7) (fun _ _ => ⟨rfl, ek103, (by decide : 0 + 0 ≤ _), (by decide : 0 + 0 ≤ _)⟩)
  dsimp only [Pt.U, Pt.locs, Pt.cells, Pt.slots] at X104 l104 y104 z104 st104 hQ104
  subst l104 y104 z104
  obtain ⟨rfl, Nq104, ek104⟩ := hQ104
  have N104 := Fr.app N103 Nq104
  obtain ⟨fs, hr, hrun, hended, hW, hsame⟩ := X104.leave (v := some (.int 0)) (fun hq => by rw [Bd.returns] at hq; cases hq)
  refine ⟨_, _, pre0 _ ?_, hrun, hended, _, _, rfl, ?_, ⟨_, rfl⟩, hW, hsame.mono (by decide) (by decide)⟩
  · show SP pg ev below (s₁.setTop (mkF mi 0 #[.val (.ref x), .val (.ref y)] [])) _
    refine XS.aloadN X0.here hx rfl (hb hby dj29_0) rfl rfl ?_
    refine XS.aloadN X0.here hx rfl (hb hby dj29_1) rfl rfl ?_
    refine st103.trans ?_
    refine st104.trans ?_
    refine XS.ifYes X104.here hx rfl (pc0 := 10) (pc' := 17) rfl (hb hby dj29_10) rfl ((if0 _ _).trans (tlt (by decide : (-1 : Int32) < (0 : Int32))).1) (by decide) (by decide) ?_
    refine XS.iconst X104.here hx rfl (hb hby dj29_17) ?_
    show SP pg ev below (T104.setTop (mkF mi 18 #[.val (.ref x), .val (.ref y)] [(.int 0)])) _
    exact retN X104 hx (t := .boolean) Bd.returns (by simp) (hb hby dj29_18) hr
  · show Q_con_33 Z x y t u cs zc hE n0 _ T104.heap _
    rw [ek104]
    exact ⟨rfl, N104, rfl⟩
theorem dj37_0 : decode jc37 0 = .ok (.aload_n 1, 1) := by decide +kernel
theorem dj37_1 : decode jc37 1 = .ok (.ifnull 61, 3) := by decide +kernel
theorem dj37_4 : decode jc37 4 = .ok (.aload_n 1, 1) := by decide +kernel
theorem dj37_5 : decode jc37 5 = .ok (.invokevirtual 122, 3) := by decide +kernel
theorem dj37_8 : decode jc37 8 = .ok (.ifCond .ne 21, 3) := by decide +kernel
theorem dj37_11 : decode jc37 11 = .ok (.aload_n 1, 1) := by decide +kernel
theorem dj37_12 : decode jc37 12 = .ok (.ldc 105, 2) := by decide +kernel
theorem dj37_14 : decode jc37 14 = .ok (.invokevirtual 126, 3) := by decide +kernel
theorem dj37_17 : decode jc37 17 = .ok (.ifCond .ne 12, 3) := by decide +kernel
theorem dj37_20 : decode jc37 20 = .ok (.aload_n 1, 1) := by decide +kernel
theorem dj37_21 : decode jc37 21 = .ok (.ldc 120, 2) := by decide +kernel
theorem dj37_23 : decode jc37 23 = .ok (.invokevirtual 126, 3) := by decide +kernel
theorem dj37_26 : decode jc37 26 = .ok (.ifCond .eq 36, 3) := by decide +kernel
theorem dj37_62 : decode jc37 62 = .ok (.return_, 1) := by decide +kernel
theorem pd_24 : parseMethodDescriptor "(Ljava/lang/CharSequence;)Z" = some ⟨[(.object "java/lang/CharSequence")], some .boolean⟩ := by decide +kernel
theorem pn_com_example_beanloft_beanloft_naming_GlobalName : plainName "com/example/beanloft/beanloft/naming/GlobalName" = true := by first | (simp [plainName, overriddenIn]; done) | decide +kernel
theorem ef_seg (mi : MethodId) (k : Addr) (x : Addr) (m : Addr) (b : Addr) : entryFrame mi #[(.ref k), (.ref x), (.ref m), (.ref b)] 4 = mkF mi 0 #[.val (.ref k), .val (.ref x), .val (.ref m), .val (.ref b)] [] := rfl
def Q_seg (Z : State) (k x m b t : Addr) (cs : List Int32) (zc : Int32) (hE : Heap) (n0 : Nat) (vv : Option Value) (hh : Heap) (LL : List Loc) : Prop := (vv = none) ∧ (Fr n0 LL) ∧ (Keep hE hh [])
theorem rm_seg (hw : HW a0 Z) (ws : List Cond) (k x m b t : Addr) (cs : List Int32) (zc : Int32) (hE : Heap) (n0 : Nat) (O : Old Z n0 hE) (P0_ : LStr Z hE x t cs) (D0_ : Sta Z Z.heap c1_ c6_ "Z" (.int zc)) (hne : cs.length ≠ 0) (h47 : ∀ c ∈ cs, ¬ ((c.toInt8.toInt32) = (47 : Int32))) (h33 : ∀ c ∈ cs, ¬ ((c.toInt8.toInt32) = (33 : Int32))) (hzc : ¬ (zc = (0 : Int32))) :
    MetFree la mn40 (head1 (Cond.code mn40 jc37 4 none :: ws) (rr 5 4 16 122)) (fun aa UU => aa = #[(.ref k), (.ref x), (.ref m), (.ref b)] ∧ Z.Warmed39 UU.vm ∧ UU.heap = hE ∧ CHv Z ELs UU.vm hE ∧ True) (fun _ _ _ _ _ => True) (fun _ UU oo UV => ∃ vv LL, oo = .returned vv ∧ Q_seg Z k x m b t cs zc hE n0 vv UV.heap LL ∧ (CHr Z ELs UU.vm UU.heap UV.vm UV.heap ∧ ∃ ly0 lu0 ly1 lu1 : Addr, Lit (Z.setVm UV.vm) c0_ 105 ly0 ∧ LStr Z UV.heap ly0 lu0 ([(47 : Int32)] : List Int32) ∧ Lit (Z.setVm UV.vm) c0_ 120 ly1 ∧ LStr Z UV.heap ly1 lu1 ([(33 : Int32)] : List Int32)) ∧ ReturnedEndW UU oo UV LL (rr 5 4 16 122).cells (rr 5 4 16 122).slots) := by
  refine MetFree.of_bodySF (plainFor_of_name pn_com_example_beanloft_beanloft_naming_GlobalName) hisR ?_
  intro pg ev sb mi gs below me cd s₁ Bd hml0 hPt hKt
  obtain ⟨rfl, hZ, hh, hH, -⟩ := hPt
  have hx := Bd.exec
  have hby := Bd.bytes
  have hml : cd.maxLocals = 4 := hml0
  have hown : sb.vm.findClass c0_ = some mi.cls := findClass_of_methodNamed Bd.named
  have X0 : Stand pg la ev (rr 5 4 16 122) (sb.setVm sb.vm) mi #[(.ref k), (.ref x), (.ref m), (.ref b)] below me cd s₁ [] 0 0 := Stand.of_body Bd
  have eE : s₁.heap = hE := by rw [← hh, Bd.state]; rfl
  have N0 := Fr.nil n0
  have pre0 : ∀ tt, SP pg ev below (s₁.setTop (mkF mi 0 #[.val (.ref k), .val (.ref x), .val (.ref m), .val (.ref b)] [])) tt → SP pg ev below (s₁.setTop (entryFrame mi #[(.ref k), (.ref x), (.ref m), (.ref b)] 4)) tt := fun tt kk => castTop (ef_seg mi k x m b) kk
  have hS : sb.Since sb.vm 0 := (State.WarmedH.refl sb).since 0
  have hk : 0 ≤ hE.size := Nat.zero_le _
  have hEL := own_EW hw
  have C0 := CHr.refl hH
  obtain ⟨cq101, kq101, q101a, q101b, q101c⟩ := isOf hZ eE (P0_).1
  obtain ⟨v101, _, ⟨T101, L101, k101, n101⟩, -, X101, ⟨Lc101, hQ101, l101, y101, z101⟩, st101⟩ := X0.virtualBack hx (y := mn34) (z := mn34) hown (mvT hZ (wd73 hw)) (mvT hZ (wd74 hw)) (notFace_of_selects (args := #[]) (mvT hZ (wd76 hw))) (mvT hZ (wd76 hw)) (mvT hZ (wd75 hw)) (by decide) (backOf (W := 0) (rm_emp la Z a0 hw [] x t cs hE n0 O P0_ (hne : cs.length ≠ 0)) hZ (wd77 hw) (wd6 hw) (by decide) (by decide)) q101a q101c (g := (mkF mi 5 #[.val (.ref k), .val (.ref x), .val (.ref m), .val (.ref b)] [(.ref x)])) rfl (by rw [hml]; rfl) (Steps.refl _) (argsL := []) (rest := []) (lenOf pd_14 rfl) rfl (Nat.le_of_ble_eq_true rfl) (hb hby dj37_5) (fun _ _ => ⟨rfl, eE, (by decide : 0 + 0 ≤ _), (by decide : 0 + 0 ≤ _)⟩)
  dsimp only [Pt.U, Pt.locs, Pt.cells, Pt.slots] at X101 l101 y101 z101 st101 hQ101
  subst l101 y101 z101
  obtain ⟨rfl, Nq101, ek101⟩ := hQ101
  have N101 := Fr.app N0 Nq101
  obtain ⟨a102, T102, h102, k102, d102, kc102, X102, e102, E102, hs103, hk104, hZ, hown, lE102, lC102, lV102, lA102, -, -, c102, lt105, hne102, st102⟩ := ldcCH (s := sb.setVm sb.vm) X101 hx hZ hown (wd78 hw) (own_wS hw) ek101 ((State.WarmedH.refl (sb.setVm sb.vm)).since 0) (Nat.zero_le _) hEL (by decide +kernel) C0.1 (vs := ([(47 : Int32)] : List Int32).map fun c => Value.int c.toInt8.toInt32) (z := Int32.ofNat ([(47 : Int32)] : List Int32).length) (by decide +kernel) (by decide) (by decide) (g := (mkF mi 12 #[.val (.ref k), .val (.ref x), .val (.ref m), .val (.ref b)] [(.ref x)])) rfl (hb hby dj37_12) (n := 4) (by decide) (by decide) (by decide) (by decide)
  have X102 := own_restand X102
  have hS := hS.trans (⟨hs103.1, hs103.2.mono hk104⟩ : (sb.setVm sb.vm).Since T102.vm h102.size) (Nat.le_trans hk E102.1)
  have hk : h102.size ≤ h102.size := Nat.le_refl _
  have C106 := CHr.trans C0 c102
  have s107 : LStr Z h102 a102 d102 ([(47 : Int32)] : List Int32) := ⟨lE102, lV102, lC102, ⟨_, lA102⟩, (by decide), (by decide)⟩
  have O108 : Old Z n0 h102 := (O.ext E102)
  have f109 : LStr Z h102 x t cs := (P0_.ext E102)
  obtain ⟨cq110, kq110, q110a, q110b, q110c⟩ := isOf hZ e102 (f109).1
  obtain ⟨v110, _, ⟨T110, L110, k110, n110⟩, -, X110, ⟨Lc110, hQ110, l110, y110, z110⟩, st110⟩ := X102.virtualBack hx (y := mn39) (z := mn39) hown (mvT hZ (wd79 hw)) (mvT hZ (wd80 hw)) (notFace_of_selects (args := #[]) (mvT hZ (wd82 hw))) (mvT hZ (wd82 hw)) (mvT hZ (wd81 hw)) (by decide) (backOf (W := 0) (rm_con_47 la Z a0 hw [] x a102 t d102 cs zc h102 n0 O108 f109 s107 D0_ (hne : cs.length ≠ 0) (h47 : ∀ c ∈ cs, ¬ ((c.toInt8.toInt32) = (47 : Int32))) (hzc : ¬ (zc = (0 : Int32)))) hZ (wd83 hw) (wd6 hw) (by decide) (by decide)) q110a q110c (g := (mkF mi 14 #[.val (.ref k), .val (.ref x), .val (.ref m), .val (.ref b)] [(.ref a102), (.ref x)])) rfl (by rw [hml]; rfl) (Steps.refl _) (argsL := [(.ref a102)]) (rest := []) (lenOf pd_24 rfl) rfl (Nat.le_of_ble_eq_true rfl) (hb hby dj37_14) (fun _ _ => ⟨rfl, e102, (by decide : 2 + 0 ≤ _), (by decide : 8 + 0 ≤ _)⟩)
  dsimp only [Pt.U, Pt.locs, Pt.cells, Pt.slots] at X110 l110 y110 z110 st110 hQ110
  subst l110 y110 z110
  obtain ⟨rfl, Nq110, ek110⟩ := hQ110
  have N110 := Fr.app N101 Nq110
  obtain ⟨a111, T111, h111, k111, d111, kc111, X111, e111, E111, hs112, hk113, hZ, hown, lE111, lC111, lV111, lA111, -, -, c111, lt114, hne111, st111⟩ := ldcCH (s := sb.setVm T102.vm) X110 hx hZ hown (wd114 hw) (own_wS hw) ek110 ((State.WarmedH.refl (sb.setVm T102.vm)).since 0) (Nat.zero_le _) hEL (by decide +kernel) C106.1 (vs := ([(33 : Int32)] : List Int32).map fun c => Value.int c.toInt8.toInt32) (z := Int32.ofNat ([(33 : Int32)] : List Int32).length) (by decide +kernel) (by decide) (by decide) (g := (mkF mi 21 #[.val (.ref k), .val (.ref x), .val (.ref m), .val (.ref b)] [(.ref x)])) rfl (hb hby dj37_21) (n := 4) (by decide) (by decide) (by decide) (by decide)
  have X111 := own_restand X111
  have hS := hS.trans (⟨hs112.1, hs112.2.mono hk113⟩ : (sb.setVm T102.vm).Since T111.vm h111.size) (Nat.le_trans hk E111.1)
  have hk : h111.size ≤ h111.size := Nat.le_refl _
  have lt115 := Lit.stays (s := sb) lt105 hs112.1
  have C116 := CHr.trans C106 c111
  have s117 : LStr Z h111 a111 d111 ([(33 : Int32)] : List Int32) := ⟨lE111, lV111, lC111, ⟨_, lA111⟩, (by decide), (by decide)⟩
  have O118 : Old Z n0 h111 := (O108.ext E111)
  have f119 : LStr Z h111 x t cs := (f109.ext E111)
  obtain ⟨cq120, kq120, q120a, q120b, q120c⟩ := isOf hZ e111 (f119).1
  obtain ⟨v120, _, ⟨T120, L120, k120, n120⟩, -, X120, ⟨Lc120, hQ120, l120, y120, z120⟩, st120⟩ := X111.virtualBack hx (y := mn39) (z := mn39) hown (mvT hZ (wd79 hw)) (mvT hZ (wd80 hw)) (notFace_of_selects (args := #[]) (mvT hZ (wd82 hw))) (mvT hZ (wd82 hw)) (mvT hZ (wd81 hw)) (by decide) (backOf (W := 0) (rm_con_33 la Z a0 hw [] x a111 t d111 cs zc h111 n0 O118 f119 s117 D0_ (hne : cs.length ≠ 0) (h33 : ∀ c ∈ cs, ¬ ((c.toInt8.toInt32) = (33 : Int32))) (hzc : ¬ (zc = (0 : Int32)))) hZ (wd83 hw) (wd6 hw) (by decide) (by decide)) q120a q120c (g := (mkF mi 23 #[.val (.ref k), .val (.ref x), .val (.ref m), .val (.ref b)] [(.ref a111), (.ref x)])) rfl (by rw [hml]; rfl) (Steps.refl _) (argsL := [(.ref a111)]) (rest := []) (lenOf pd_24 rfl) rfl (Nat.le_of_ble_eq_true rfl) (hb hby dj37_23) (fun _ _ => ⟨rfl, e111, (by decide : 4 + 0 ≤ _), (by decide : 16 + 0 ≤ _)⟩)
  dsimp only [Pt.U, Pt.locs, Pt.cells, Pt.slots] at X120 l120 y120 z120 st120 hQ120
  subst l120 y120 z120
  obtain ⟨rfl, Nq120, ek120⟩ := hQ120
  have N120 := Fr.app N110 Nq120
  obtain ⟨fs, hr, hrun, hended, hWe⟩ := X120.leaveW hS (show _ ≤ T120.heap.size by rw [ek120]; exact hk) (v := none) (fun _ => rfl)
  refine ⟨_, _, pre0 _ ?_, hrun, hended, _, _, rfl, ?_, ?_, hWe.1, hWe.2.1, hWe.2.2.1, hWe.2.2.2.mono (by decide) (by decide)⟩
  · show SP pg ev below (s₁.setTop (mkF mi 0 #[.val (.ref k), .val (.ref x), .val (.ref m), .val (.ref b)] [])) _
    refine XS.aloadN X0.here hx rfl (hb hby dj37_0) rfl rfl ?_
    refine XS.ifnullNo X0.here hx rfl (hb hby dj37_1) rfl ?_
    refine XS.aloadN X0.here hx rfl (hb hby dj37_4) rfl rfl ?_
    refine st101.trans ?_
    refine XS.ifNo X101.here hx rfl (hb hby dj37_8) rfl ((if0 _ _).trans (teq (rfl : (0 : Int32) = (0 : Int32))).2) ?_
    refine XS.aloadN X101.here hx rfl (hb hby dj37_11) rfl rfl ?_
    refine st102 _ ?_
    refine st110.trans ?_
    refine XS.ifNo X110.here hx rfl (hb hby dj37_17) rfl ((if0 _ _).trans (teq (rfl : (0 : Int32) = (0 : Int32))).2) ?_
    refine XS.aloadN X110.here hx rfl (hb hby dj37_20) rfl rfl ?_
    refine st111 _ ?_
    refine st120.trans ?_
    refine XS.ifYes X120.here hx rfl (pc0 := 26) (pc' := 62) rfl (hb hby dj37_26) rfl ((if0 _ _).trans (teq (rfl : (0 : Int32) = (0 : Int32))).1) (by decide) (by decide) ?_
    show SP pg ev below (T120.setTop (mkF mi 62 #[.val (.ref k), .val (.ref x), .val (.ref m), .val (.ref b)] [])) _
    exact X120.returnOut hx Bd.returns (hb hby dj37_62) hr
  · show Q_seg Z k x m b t cs zc hE n0 _ T120.heap _
    rw [ek120]
    exact ⟨rfl, N120, (((Keep.refl hE []).ext E102).ext E111)⟩
  have f121 : LStr Z h111 a102 d102 ([(47 : Int32)] : List Int32) := (s107.ext E111)
  · show CHr Z ELs sb.vm sb.heap T120.vm T120.heap ∧ ∃ ly0 lu0 ly1 lu1 : Addr, Lit (Z.setVm T120.vm) c0_ 105 ly0 ∧ LStr Z T120.heap ly0 lu0 ([(47 : Int32)] : List Int32) ∧ Lit (Z.setVm T120.vm) c0_ 120 ly1 ∧ LStr Z T120.heap ly1 lu1 ([(33 : Int32)] : List Int32)
    rw [hh, ek120]
    exact ⟨CHr.trans C116 (CHv.at X120 hZ hEL C116.1), a102, d102, a111, d111, Lit.stays (s := sb) lt115 (X120.warmed.since 0).1, f121, Lit.stays (s := sb) lt114 (X120.warmed.since 0).1, s117⟩
theorem ef_segL (mi : MethodId) (k : Addr) (x : Addr) (m : Addr) (b : Addr) : entryFrame mi #[(.ref k), (.ref x), (.ref m), (.ref b)] 4 = mkF mi 0 #[.val (.ref k), .val (.ref x), .val (.ref m), .val (.ref b)] [] := rfl
def Q_segL (Z : State) (k x m b t y47 u47 y33 u33 : Addr) (cs : List Int32) (zc : Int32) (hE : Heap) (n0 : Nat) (vv : Option Value) (hh : Heap) (LL : List Loc) : Prop := (vv = none) ∧ (Fr n0 LL) ∧ (Keep hE hh [])
theorem rm_segL (hw : HW a0 Z) (ws : List Cond) (k x m b t y47 u47 y33 u33 : Addr) (cs : List Int32) (zc : Int32) (hE : Heap) (n0 : Nat) (O : Old Z n0 hE) (P0_ : LStr Z hE x t cs) (P1_ : LStr Z hE y47 u47 ([(47 : Int32)] : List Int32)) (P2_ : LStr Z hE y33 u33 ([(33 : Int32)] : List Int32)) (D0_ : Sta Z Z.heap c1_ c6_ "Z" (.int zc)) (hne : cs.length ≠ 0) (h47 : ∀ c ∈ cs, ¬ ((c.toInt8.toInt32) = (47 : Int32))) (h33 : ∀ c ∈ cs, ¬ ((c.toInt8.toInt32) = (33 : Int32))) (hzc : ¬ (zc = (0 : Int32))) :
    MetFree la mn40 (head1 (Cond.code mn40 jc37 4 none :: ws) (rr 5 0 0 122)) (fun aa UU => aa = #[(.ref k), (.ref x), (.ref m), (.ref b)] ∧ Z.Warmed39 UU.vm ∧ UU.heap = hE ∧ CHv Z ELs UU.vm hE ∧ Lit (Z.setVm UU.vm) c0_ 105 y47 ∧ Lit (Z.setVm UU.vm) c0_ 120 y33) (fun _ _ _ _ _ => True) (fun _ UU oo UV => ∃ vv LL, oo = .returned vv ∧ Q_segL Z k x m b t y47 u47 y33 u33 cs zc hE n0 vv UV.heap LL ∧ (CHr Z ELs UU.vm UU.heap UV.vm UV.heap ∧ True) ∧ ReturnedEndW UU oo UV LL (rr 5 0 0 122).cells (rr 5 0 0 122).slots) := by
  refine MetFree.of_bodySF (plainFor_of_name pn_com_example_beanloft_beanloft_naming_GlobalName) hisR ?_
  intro pg ev sb mi gs below me cd s₁ Bd hml0 hPt hKt
  obtain ⟨rfl, hZ, hh, hH, hl_0, hl_1⟩ := hPt
  have hx := Bd.exec
  have hby := Bd.bytes
  have hml : cd.maxLocals = 4 := hml0
  have hown : sb.vm.findClass c0_ = some mi.cls := findClass_of_methodNamed Bd.named
  have X0 : Stand pg la ev (rr 5 0 0 122) (sb.setVm sb.vm) mi #[(.ref k), (.ref x), (.ref m), (.ref b)] below me cd s₁ [] 0 0 := Stand.of_body Bd
  have eE : s₁.heap = hE := by rw [← hh, Bd.state]; rfl
  have N0 := Fr.nil n0
  have pre0 : ∀ tt, SP pg ev below (s₁.setTop (mkF mi 0 #[.val (.ref k), .val (.ref x), .val (.ref m), .val (.ref b)] [])) tt → SP pg ev below (s₁.setTop (entryFrame mi #[(.ref k), (.ref x), (.ref m), (.ref b)] 4)) tt := fun tt kk => castTop (ef_segL mi k x m b) kk
  have hS : sb.Since sb.vm 0 := (State.WarmedH.refl sb).since 0
  have hk : 0 ≤ hE.size := Nat.zero_le _
  have hEL := own_EW hw
  have C0 := CHr.refl hH
  obtain ⟨cq101, kq101, q101a, q101b, q101c⟩ := isOf hZ eE (P0_).1
  obtain ⟨v101, _, ⟨T101, L101, k101, n101⟩, -, X101, ⟨Lc101, hQ101, l101, y101, z101⟩, st101⟩ := X0.virtualBack hx (y := mn34) (z := mn34) hown (mvT hZ (wd73 hw)) (mvT hZ (wd74 hw)) (notFace_of_selects (args := #[]) (mvT hZ (wd76 hw))) (mvT hZ (wd76 hw)) (mvT hZ (wd75 hw)) (by decide) (backOf (W := 0) (rm_emp la Z a0 hw [] x t cs hE n0 O P0_ (hne : cs.length ≠ 0)) hZ (wd77 hw) (wd6 hw) (by decide) (by decide)) q101a q101c (g := (mkF mi 5 #[.val (.ref k), .val (.ref x), .val (.ref m), .val (.ref b)] [(.ref x)])) rfl (by rw [hml]; rfl) (Steps.refl _) (argsL := []) (rest := []) (lenOf pd_14 rfl) rfl (Nat.le_of_ble_eq_true rfl) (hb hby dj37_5) (fun _ _ => ⟨rfl, eE, (by decide : 0 + 0 ≤ _), (by decide : 0 + 0 ≤ _)⟩)
  dsimp only [Pt.U, Pt.locs, Pt.cells, Pt.slots] at X101 l101 y101 z101 st101 hQ101
  subst l101 y101 z101
  obtain ⟨rfl, Nq101, ek101⟩ := hQ101
  have N101 := Fr.app N0 Nq101
  have st102 := ldcAgain (s := sb) X101 hx hZ hown (wd78 hw) hl_0 (g := (mkF mi 12 #[.val (.ref k), .val (.ref x), .val (.ref m), .val (.ref b)] [(.ref x)])) rfl (hb hby dj37_12)
  obtain ⟨cq103, kq103, q103a, q103b, q103c⟩ := isOf hZ ek101 (P0_).1
  obtain ⟨v103, _, ⟨T103, L103, k103, n103⟩, -, X103, ⟨Lc103, hQ103, l103, y103, z103⟩, st103⟩ := X101.virtualBack hx (y := mn39) (z := mn39) hown (mvT hZ (wd79 hw)) (mvT hZ (wd80 hw)) (notFace_of_selects (args := #[]) (mvT hZ (wd82 hw))) (mvT hZ (wd82 hw)) (mvT hZ (wd81 hw)) (by decide) (backOf (W := 0) (rm_con_47 la Z a0 hw [] x y47 t u47 cs zc hE n0 O P0_ P1_ D0_ (hne : cs.length ≠ 0) (h47 : ∀ c ∈ cs, ¬ ((c.toInt8.toInt32) = (47 : Int32))) (hzc : ¬ (zc = (0 : Int32)))) hZ (wd83 hw) (wd6 hw) (by decide) (by decide)) q103a q103c (g := (mkF mi 14 #[.val (.ref k), .val (.ref x), .val (.ref m), .val (.ref b)] [(.ref y47), (.ref x)])) rfl (by rw [hml]; rfl) (Steps.refl _) (argsL := [(.ref y47)]) (rest := []) (lenOf pd_24 rfl) rfl (Nat.le_of_ble_eq_true rfl) (hb hby dj37_14) (fun _ _ => ⟨rfl, ek101, (by decide : 0 + 0 ≤ _), (by decide : 0 + 0 ≤ _)⟩)
  dsimp only [Pt.U, Pt.locs, Pt.cells, Pt.slots] at X103 l103 y103 z103 st103 hQ103
  subst l103 y103 z103
  obtain ⟨rfl, Nq103, ek103⟩ := hQ103
  have N103 := Fr.app N101 Nq103
  have st104 := ldcAgain (s := sb) X103 hx hZ hown (wd114 hw) hl_1 (g := (mkF mi 21 #[.val (.ref k), .val (.ref x), .val (.ref m), .val (.ref b)] [(.ref x)])) rfl (hb hby dj37_21)
  obtain ⟨cq105, kq105, q105a, q105b, q105c⟩ := isOf hZ ek103 (P0_).1
  obtain ⟨v105, _, ⟨T105, L105, k105, n105⟩, -, X105, ⟨Lc105, hQ105, l105, y105, z105⟩, st105⟩ := X103.virtualBack hx (y := mn39) (z := mn39) hown (mvT hZ (wd79 hw)) (mvT hZ (wd80 hw)) (notFace_of_selects (args := #[]) (mvT hZ (wd82 hw))) (mvT hZ (wd82 hw)) (mvT hZ (wd81 hw)) (by decide) (backOf (W := 0) (rm_con_33 la Z a0 hw [] x y33 t u33 cs zc hE n0 O P0_ P2_ D0_ (hne : cs.length ≠ 0) (h33 : ∀ c ∈ cs, ¬ ((c.toInt8.toInt32) = (33 : Int32))) (hzc : ¬ (zc = (0 : Int32)))) hZ (wd83 hw) (wd6 hw) (by decide) (by decide)) q105a q105c (g := (mkF mi 23 #[.val (.ref k), .val (.ref x), .val (.ref m), .val (.ref b)] [(.ref y33), (.ref x)])) rfl (by rw [hml]; rfl) (Steps.refl _) (argsL := [(.ref y33)]) (rest := []) (lenOf pd_24 rfl) rfl (Nat.le_of_ble_eq_true rfl) (hb hby dj37_23) (fun _ _ => ⟨rfl, ek103, (by decide : 0 + 0 ≤ _), (by decide : 0 + 0 ≤ _)⟩)
  dsimp only [Pt.U, Pt.locs, Pt.cells, Pt.slots] at X105 l105 y105 z105 st105 hQ105
  subst l105 y105 z105
  obtain ⟨rfl, Nq105, ek105⟩ := hQ105
  have N105 := Fr.app N103 Nq105
  obtain ⟨fs, hr, hrun, hended, hWe⟩ := X105.leaveW hS (show _ ≤ T105.heap.size by rw [ek105]; exact hk) (v := none) (fun _ => rfl)
  refine ⟨_, _, pre0 _ ?_, hrun, hended, _, _, rfl, ?_, ?_, hWe.1, hWe.2.1, hWe.2.2.1, hWe.2.2.2.mono (by decide) (by decide)⟩
  · show SP pg ev below (s₁.setTop (mkF mi 0 #[.val (.ref k), .val (.ref x), .val (.ref m), .val (.ref b)] [])) _
    refine XS.aloadN X0.here hx rfl (hb hby dj37_0) rfl rfl ?_
    refine XS.ifnullNo X0.here hx rfl (hb hby dj37_1) rfl ?_
    refine XS.aloadN X0.here hx rfl (hb hby dj37_4) rfl rfl ?_
    refine st101.trans ?_
    refine XS.ifNo X101.here hx rfl (hb hby dj37_8) rfl ((if0 _ _).trans (teq (rfl : (0 : Int32) = (0 : Int32))).2) ?_
    refine XS.aloadN X101.here hx rfl (hb hby dj37_11) rfl rfl ?_
    refine st102 _ ?_
    refine st103.trans ?_
    refine XS.ifNo X103.here hx rfl (hb hby dj37_17) rfl ((if0 _ _).trans (teq (rfl : (0 : Int32) = (0 : Int32))).2) ?_
    refine XS.aloadN X103.here hx rfl (hb hby dj37_20) rfl rfl ?_
    refine st104 _ ?_
    refine st105.trans ?_
    refine XS.ifYes X105.here hx rfl (pc0 := 26) (pc' := 62) rfl (hb hby dj37_26) rfl ((if0 _ _).trans (teq (rfl : (0 : Int32) = (0 : Int32))).1) (by decide) (by decide) ?_
    show SP pg ev below (T105.setTop (mkF mi 62 #[.val (.ref k), .val (.ref x), .val (.ref m), .val (.ref b)] [])) _
    exact X105.returnOut hx Bd.returns (hb hby dj37_62) hr
  · show Q_segL Z k x m b t y47 u47 y33 u33 cs zc hE n0 _ T105.heap _
    rw [ek105]
    exact ⟨rfl, N105, (Keep.refl hE [])⟩
  · show CHr Z ELs sb.vm sb.heap T105.vm T105.heap ∧ True
    rw [hh, ek105]
    exact ⟨CHr.trans C0 (CHv.at X105 hZ hEL C0.1), trivial⟩
theorem ef_segN (mi : MethodId) (k : Addr) (m : Addr) (b : Addr) : entryFrame mi #[(.ref k), .null, (.ref m), (.ref b)] 4 = mkF mi 0 #[.val (.ref k), .val .null, .val (.ref m), .val (.ref b)] [] := rfl
def Q_segN (Z : State) (k m b : Addr) (hE : Heap) (n0 : Nat) (vv : Option Value) (hh : Heap) (LL : List Loc) : Prop := (vv = none) ∧ (Fr n0 LL) ∧ (hh = hE)
theorem rm_segN (hw : HW a0 Z) (ws : List Cond) (k m b : Addr) (hE : Heap) (n0 : Nat) (O : Old Z n0 hE) :
    MF la Z hE mn40 jc37 4 none ws (rr 0 0 0 0) #[(.ref k), .null, (.ref m), (.ref b)] (Q_segN Z k m b hE n0) := by
  refine MetFree.of_bodySF (plainFor_of_name pn_com_example_beanloft_beanloft_naming_GlobalName) hisR ?_
  intro pg ev sb mi gs below me cd s₁ Bd hml0 hPt hKt
  obtain ⟨rfl, hZ, hh⟩ := hPt
  have hx := Bd.exec
  have hby := Bd.bytes
  have hml : cd.maxLocals = 4 := hml0
  have hown : sb.vm.findClass c0_ = some mi.cls := findClass_of_methodNamed Bd.named
  have X0 : Stand pg la ev (rr 0 0 0 0) sb mi #[(.ref k), .null, (.ref m), (.ref b)] below me cd s₁ [] 0 0 := Stand.of_body Bd
  have eE : s₁.heap = hE := by rw [← hh, Bd.state]; rfl
  have N0 := Fr.nil n0
  have pre0 : ∀ tt, SP pg ev below (s₁.setTop (mkF mi 0 #[.val (.ref k), .val .null, .val (.ref m), .val (.ref b)] [])) tt → SP pg ev below (s₁.setTop (entryFrame mi #[(.ref k), .null, (.ref m), (.ref b)] 4)) tt := fun tt kk => castTop (ef_segN mi k m b) kk
  obtain ⟨fs, hr, hrun, hended, hW, hsame⟩ := X0.leave (v := none) (fun _ => rfl)
  refine ⟨_, _, pre0 _ ?_, hrun, hended, _, _, rfl, ?_, ⟨_, rfl⟩, hW, hsame.mono (by decide) (by decide)⟩
  · show SP pg ev below (s₁.setTop (mkF mi 0 #[.val (.ref k), .val .null, .val (.ref m), .val (.ref b)] [])) _
    refine XS.aloadN X0.here hx rfl (hb hby dj37_0) rfl rfl ?_
    refine XS.ifnullYes X0.here hx rfl (pc0 := 1) (pc' := 62) rfl (hb hby dj37_1) rfl (by decide) (by decide) ?_
    show SP pg ev below (s₁.setTop (mkF mi 62 #[.val (.ref k), .val .null, .val (.ref m), .val (.ref b)] [])) _
    exact X0.returnOut hx Bd.returns (hb hby dj37_62) hr
  · show Q_segN Z k m b hE n0 _ s₁.heap _
    rw [eE]
    exact ⟨rfl, N0, rfl⟩

def OStr (Z : State) (h : Heap) (v : Value) (cs : List Int32) : Prop := v = .null ∨ ∃ a t : Addr, v = .ref a ∧ LStr Z h a t cs
theorem OStr.ext {Z : State} {h h' : Heap} {v : Value} {cs : List Int32} (F : OStr Z h v cs) (E : Ext h h') : OStr Z h' v cs := F.imp id fun ⟨a, t, e, S⟩ => ⟨a, t, e, S.ext E⟩
theorem OStr.keep {Z : State} {h h' : Heap} {v : Value} {cs : List Int32} (F : OStr Z h v cs) (K : Keep h h' []) : OStr Z h' v cs := F.imp id fun ⟨a, t, e, S⟩ => ⟨a, t, e, S.keep K nin0 nin0⟩
theorem OStr.isRef {Z : State} {h : Heap} {v : Value} {cs : List Int32} (F : OStr Z h v cs) : v.isRef = true := by rcases F with rfl | ⟨a, t, rfl, -⟩ <;> rfl
theorem own_narX {v : Value} {c : String} (h : v.isRef = true) : narrow (.object c) v = v := by rcases ref_cases h with rfl | ⟨_, rfl⟩ <;> rfl
theorem own_fitX {v : Value} {c : String} (h : v.isRef = true) : fits (.object c) v = true := by rcases ref_cases h with rfl | ⟨_, rfl⟩ <;> rfl

theorem ef_segP (mi : MethodId) (k : Addr) (x : Addr) (m : Addr) (b : Addr) : entryFrame mi #[(.ref k), (.ref x), (.ref m), (.ref b)] 4 = mkF mi 0 #[.val (.ref k), .val (.ref x), .val (.ref m), .val (.ref b)] [] := rfl
def Q_segP (Z : State) (k x m b t : Addr) (cs : List Int32) (zc : Int32) (hE : Heap) (n0 : Nat) (vv : Option Value) (hh : Heap) (LL : List Loc) : Prop := (vv = none) ∧ (Fr n0 LL) ∧ (Keep hE hh [])
theorem rm_segP (hw : HW a0 Z) (ws : List Cond) (k x m b t : Addr) (cs : List Int32) (zc : Int32) (hE : Heap) (n0 : Nat) (O : Old Z n0 hE) (P0_ : LStr Z hE x t cs) (D0_ : Sta Z Z.heap c1_ c6_ "Z" (.int zc)) (hne : cs.length ≠ 0) (h47 : ∀ c ∈ cs, ¬ ((c.toInt8.toInt32) = (47 : Int32))) (h33 : ∀ c ∈ cs, ¬ ((c.toInt8.toInt32) = (33 : Int32))) (hzc : ¬ (zc = (0 : Int32))) :
    MW la Z hE mn40 jc37 4 none ws (rr 5 4 16 122) #[(.ref k), (.ref x), (.ref m), (.ref b)] (Q_segP Z k x m b t cs zc hE n0) := by
  refine MetFree.of_bodySF (plainFor_of_name pn_com_example_beanloft_beanloft_naming_GlobalName) hisR ?_
  intro pg ev sb mi gs below me cd s₁ Bd hml0 hPt hKt
  obtain ⟨rfl, hZ, hh, hH⟩ := hPt
  have hx := Bd.exec
  have hby := Bd.bytes
  have hml : cd.maxLocals = 4 := hml0
  have hown : sb.vm.findClass c0_ = some mi.cls := findClass_of_methodNamed Bd.named
  have X0 : Stand pg la ev (rr 5 4 16 122) (sb.setVm sb.vm) mi #[(.ref k), (.ref x), (.ref m), (.ref b)] below me cd s₁ [] 0 0 := Stand.of_body Bd
  have eE : s₁.heap = hE := by rw [← hh, Bd.state]; rfl
  have N0 := Fr.nil n0
  have pre0 : ∀ tt, SP pg ev below (s₁.setTop (mkF mi 0 #[.val (.ref k), .val (.ref x), .val (.ref m), .val (.ref b)] [])) tt → SP pg ev below (s₁.setTop (entryFrame mi #[(.ref k), (.ref x), (.ref m), (.ref b)] 4)) tt := fun tt kk => castTop (ef_segP mi k x m b) kk
  have hS : sb.Since sb.vm 0 := (State.WarmedH.refl sb).since 0
  have hk : 0 ≤ hE.size := Nat.zero_le _
  have hEL := own_EW hw
  have C0 := CHr.refl hH
  obtain ⟨cq101, kq101, q101a, q101b, q101c⟩ := isOf hZ eE (P0_).1
  obtain ⟨v101, _, ⟨T101, L101, k101, n101⟩, -, X101, ⟨Lc101, hQ101, l101, y101, z101⟩, st101⟩ := X0.virtualBack hx (y := mn34) (z := mn34) hown (mvT hZ (wd73 hw)) (mvT hZ (wd74 hw)) (notFace_of_selects (args := #[]) (mvT hZ (wd76 hw))) (mvT hZ (wd76 hw)) (mvT hZ (wd75 hw)) (by decide) (backOf (W := 0) (rm_emp la Z a0 hw [] x t cs hE n0 O P0_ (hne : cs.length ≠ 0)) hZ (wd77 hw) (wd6 hw) (by decide) (by decide)) q101a q101c (g := (mkF mi 5 #[.val (.ref k), .val (.ref x), .val (.ref m), .val (.ref b)] [(.ref x)])) rfl (by rw [hml]; rfl) (Steps.refl _) (argsL := []) (rest := []) (lenOf pd_14 rfl) rfl (Nat.le_of_ble_eq_true rfl) (hb hby dj37_5) (fun _ _ => ⟨rfl, eE, (by decide : 0 + 0 ≤ _), (by decide : 0 + 0 ≤ _)⟩)
  dsimp only [Pt.U, Pt.locs, Pt.cells, Pt.slots] at X101 l101 y101 z101 st101 hQ101
  subst l101 y101 z101
  obtain ⟨rfl, Nq101, ek101⟩ := hQ101
  have N101 := Fr.app N0 Nq101
  obtain ⟨a102, T102, h102, k102, d102, kc102, X102, e102, E102, hS, hk, hZ, hown, lE102, lC102, lV102, lA102, -, -, c102, -, hne102, st102⟩ := ldcCH X101 hx hZ hown (wd78 hw) (own_wS hw) ek101 hS hk hEL (by decide +kernel) C0.1 (vs := ([(47 : Int32)] : List Int32).map fun c => Value.int c.toInt8.toInt32) (z := Int32.ofNat ([(47 : Int32)] : List Int32).length) (by decide +kernel) (by decide) (by decide) (g := (mkF mi 12 #[.val (.ref k), .val (.ref x), .val (.ref m), .val (.ref b)] [(.ref x)])) rfl (hb hby dj37_12) (n := 4) (by decide) (by decide) (by decide) (by decide)
  have C103 := CHr.trans C0 c102
  have s104 : LStr Z h102 a102 d102 ([(47 : Int32)] : List Int32) := ⟨lE102, lV102, lC102, ⟨_, lA102⟩, (by decide), (by decide)⟩
  have O105 : Old Z n0 h102 := (O.ext E102)
  have f106 : LStr Z h102 x t cs := (P0_.ext E102)
  obtain ⟨cq107, kq107, q107a, q107b, q107c⟩ := isOf hZ e102 (f106).1
  obtain ⟨v107, _, ⟨T107, L107, k107, n107⟩, -, X107, ⟨Lc107, hQ107, l107, y107, z107⟩, st107⟩ := X102.virtualBack hx (y := mn39) (z := mn39) hown (mvT hZ (wd79 hw)) (mvT hZ (wd80 hw)) (notFace_of_selects (args := #[]) (mvT hZ (wd82 hw))) (mvT hZ (wd82 hw)) (mvT hZ (wd81 hw)) (by decide) (backOf (W := 0) (rm_con_47 la Z a0 hw [] x a102 t d102 cs zc h102 n0 O105 f106 s104 D0_ (hne : cs.length ≠ 0) (h47 : ∀ c ∈ cs, ¬ ((c.toInt8.toInt32) = (47 : Int32))) (hzc : ¬ (zc = (0 : Int32)))) hZ (wd83 hw) (wd6 hw) (by decide) (by decide)) q107a q107c (g := (mkF mi 14 #[.val (.ref k), .val (.ref x), .val (.ref m), .val (.ref b)] [(.ref a102), (.ref x)])) rfl (by rw [hml]; rfl) (Steps.refl _) (argsL := [(.ref a102)]) (rest := []) (lenOf pd_24 rfl) rfl (Nat.le_of_ble_eq_true rfl) (hb hby dj37_14) (fun _ _ => ⟨rfl, e102, (by decide : 2 + 0 ≤ _), (by decide : 8 + 0 ≤ _)⟩)
  dsimp only [Pt.U, Pt.locs, Pt.cells, Pt.slots] at X107 l107 y107 z107 st107 hQ107
  subst l107 y107 z107
  obtain ⟨rfl, Nq107, ek107⟩ := hQ107
  have N107 := Fr.app N101 Nq107
  obtain ⟨a108, T108, h108, k108, d108, kc108, X108, e108, E108, hS, hk, hZ, hown, lE108, lC108, lV108, lA108, -, -, c108, -, hne108, st108⟩ := ldcCH X107 hx hZ hown (wd114 hw) (own_wS hw) ek107 hS hk hEL (by decide +kernel) C103.1 (vs := ([(33 : Int32)] : List Int32).map fun c => Value.int c.toInt8.toInt32) (z := Int32.ofNat ([(33 : Int32)] : List Int32).length) (by decide +kernel) (by decide) (by decide) (g := (mkF mi 21 #[.val (.ref k), .val (.ref x), .val (.ref m), .val (.ref b)] [(.ref x)])) rfl (hb hby dj37_21) (n := 4) (by decide) (by decide) (by decide) (by decide)
  have C109 := CHr.trans C103 c108
  have s110 : LStr Z h108 a108 d108 ([(33 : Int32)] : List Int32) := ⟨lE108, lV108, lC108, ⟨_, lA108⟩, (by decide), (by decide)⟩
  have O111 : Old Z n0 h108 := (O105.ext E108)
  have f112 : LStr Z h108 x t cs := (f106.ext E108)
  obtain ⟨cq113, kq113, q113a, q113b, q113c⟩ := isOf hZ e108 (f112).1
  obtain ⟨v113, _, ⟨T113, L113, k113, n113⟩, -, X113, ⟨Lc113, hQ113, l113, y113, z113⟩, st113⟩ := X108.virtualBack hx (y := mn39) (z := mn39) hown (mvT hZ (wd79 hw)) (mvT hZ (wd80 hw)) (notFace_of_selects (args := #[]) (mvT hZ (wd82 hw))) (mvT hZ (wd82 hw)) (mvT hZ (wd81 hw)) (by decide) (backOf (W := 0) (rm_con_33 la Z a0 hw [] x a108 t d108 cs zc h108 n0 O111 f112 s110 D0_ (hne : cs.length ≠ 0) (h33 : ∀ c ∈ cs, ¬ ((c.toInt8.toInt32) = (33 : Int32))) (hzc : ¬ (zc = (0 : Int32)))) hZ (wd83 hw) (wd6 hw) (by decide) (by decide)) q113a q113c (g := (mkF mi 23 #[.val (.ref k), .val (.ref x), .val (.ref m), .val (.ref b)] [(.ref a108), (.ref x)])) rfl (by rw [hml]; rfl) (Steps.refl _) (argsL := [(.ref a108)]) (rest := []) (lenOf pd_24 rfl) rfl (Nat.le_of_ble_eq_true rfl) (hb hby dj37_23) (fun _ _ => ⟨rfl, e108, (by decide : 4 + 0 ≤ _), (by decide : 16 + 0 ≤ _)⟩)
  dsimp only [Pt.U, Pt.locs, Pt.cells, Pt.slots] at X113 l113 y113 z113 st113 hQ113
  subst l113 y113 z113
  obtain ⟨rfl, Nq113, ek113⟩ := hQ113
  have N113 := Fr.app N107 Nq113
  obtain ⟨fs, hr, hrun, hended, hWe⟩ := X113.leaveW hS (show _ ≤ T113.heap.size by rw [ek113]; exact hk) (v := none) (fun _ => rfl)
  refine ⟨_, _, pre0 _ ?_, hrun, hended, _, _, rfl, ?_, ?_, hWe.1, hWe.2.1, hWe.2.2.1, hWe.2.2.2.mono (by decide) (by decide)⟩
  · show SP pg ev below (s₁.setTop (mkF mi 0 #[.val (.ref k), .val (.ref x), .val (.ref m), .val (.ref b)] [])) _
    refine XS.aloadN X0.here hx rfl (hb hby dj37_0) rfl rfl ?_
    refine XS.ifnullNo X0.here hx rfl (hb hby dj37_1) rfl ?_
    refine XS.aloadN X0.here hx rfl (hb hby dj37_4) rfl rfl ?_
    refine st101.trans ?_
    refine XS.ifNo X101.here hx rfl (hb hby dj37_8) rfl ((if0 _ _).trans (teq (rfl : (0 : Int32) = (0 : Int32))).2) ?_
    refine XS.aloadN X101.here hx rfl (hb hby dj37_11) rfl rfl ?_
    refine st102 _ ?_
    refine st107.trans ?_
    refine XS.ifNo X107.here hx rfl (hb hby dj37_17) rfl ((if0 _ _).trans (teq (rfl : (0 : Int32) = (0 : Int32))).2) ?_
    refine XS.aloadN X107.here hx rfl (hb hby dj37_20) rfl rfl ?_
    refine st108 _ ?_
    refine st113.trans ?_
    refine XS.ifYes X113.here hx rfl (pc0 := 26) (pc' := 62) rfl (hb hby dj37_26) rfl ((if0 _ _).trans (teq (rfl : (0 : Int32) = (0 : Int32))).1) (by decide) (by decide) ?_
    show SP pg ev below (T113.setTop (mkF mi 62 #[.val (.ref k), .val (.ref x), .val (.ref m), .val (.ref b)] [])) _
    exact X113.returnOut hx Bd.returns (hb hby dj37_62) hr
  · show Q_segP Z k x m b t cs zc hE n0 _ T113.heap _
    rw [ek113]
    exact ⟨rfl, N113, (((Keep.refl hE []).ext E102).ext E108)⟩
  · show CHr Z ELs sb.vm sb.heap T113.vm T113.heap
    rw [hh, ek113]
    exact CHr.trans C109 (CHv.at X113 hZ hEL C109.1)
theorem ef_segQ (mi : MethodId) (k : Addr) (m : Addr) (b : Addr) : entryFrame mi #[(.ref k), .null, (.ref m), (.ref b)] 4 = mkF mi 0 #[.val (.ref k), .val .null, .val (.ref m), .val (.ref b)] [] := rfl
def Q_segQ (Z : State) (k m b : Addr) (hE : Heap) (n0 : Nat) (vv : Option Value) (hh : Heap) (LL : List Loc) : Prop := (vv = none) ∧ (Fr n0 LL) ∧ (Keep hE hh [])
theorem rm_segQ (hw : HW a0 Z) (ws : List Cond) (k m b : Addr) (hE : Heap) (n0 : Nat) (O : Old Z n0 hE) :
    MW la Z hE mn40 jc37 4 none ws (rr 5 4 16 122) #[(.ref k), .null, (.ref m), (.ref b)] (Q_segQ Z k m b hE n0) := by
  refine MetFree.of_bodySF (plainFor_of_name pn_com_example_beanloft_beanloft_naming_GlobalName) hisR ?_
  intro pg ev sb mi gs below me cd s₁ Bd hml0 hPt hKt
  obtain ⟨rfl, hZ, hh, hH⟩ := hPt
  have hx := Bd.exec
  have hby := Bd.bytes
  have hml : cd.maxLocals = 4 := hml0
  have hown : sb.vm.findClass c0_ = some mi.cls := findClass_of_methodNamed Bd.named
  have X0 : Stand pg la ev (rr 5 4 16 122) (sb.setVm sb.vm) mi #[(.ref k), .null, (.ref m), (.ref b)] below me cd s₁ [] 0 0 := Stand.of_body Bd
  have eE : s₁.heap = hE := by rw [← hh, Bd.state]; rfl
  have N0 := Fr.nil n0
  have pre0 : ∀ tt, SP pg ev below (s₁.setTop (mkF mi 0 #[.val (.ref k), .val .null, .val (.ref m), .val (.ref b)] [])) tt → SP pg ev below (s₁.setTop (entryFrame mi #[(.ref k), .null, (.ref m), (.ref b)] 4)) tt := fun tt kk => castTop (ef_segQ mi k m b) kk
  have hS : sb.Since sb.vm 0 := (State.WarmedH.refl sb).since 0
  have hk : 0 ≤ hE.size := Nat.zero_le _
  have hEL := own_EW hw
  have C0 := CHr.refl hH
  obtain ⟨fs, hr, hrun, hended, hWe⟩ := X0.leaveW hS (show _ ≤ s₁.heap.size by rw [eE]; exact hk) (v := none) (fun _ => rfl)
  refine ⟨_, _, pre0 _ ?_, hrun, hended, _, _, rfl, ?_, ?_, hWe.1, hWe.2.1, hWe.2.2.1, hWe.2.2.2.mono (by decide) (by decide)⟩
  · show SP pg ev below (s₁.setTop (mkF mi 0 #[.val (.ref k), .val .null, .val (.ref m), .val (.ref b)] [])) _
    refine XS.aloadN X0.here hx rfl (hb hby dj37_0) rfl rfl ?_
    refine XS.ifnullYes X0.here hx rfl (pc0 := 1) (pc' := 62) rfl (hb hby dj37_1) rfl (by decide) (by decide) ?_
    show SP pg ev below (s₁.setTop (mkF mi 62 #[.val (.ref k), .val .null, .val (.ref m), .val (.ref b)] [])) _
    exact X0.returnOut hx Bd.returns (hb hby dj37_62) hr
  · show Q_segQ Z k m b hE n0 _ s₁.heap _
    rw [eE]
    exact ⟨rfl, N0, (Keep.refl hE [])⟩
  · show CHr Z ELs sb.vm sb.heap s₁.vm s₁.heap
    rw [hh, eE]
    exact CHr.trans C0 (CHv.at X0 hZ hEL C0.1)
def Q_segX (Z : State) (k : Addr) (va : Value) (m b : Addr) (cs : List Int32) (zc : Int32) (hE : Heap) (n0 : Nat) (vv : Option Value) (hh : Heap) (LL : List Loc) : Prop := (vv = none) ∧ (Fr n0 LL) ∧ (Keep hE hh [])
theorem rm_segX (hw : HW a0 Z) (ws : List Cond) (k : Addr) (va : Value) (m b : Addr) (cs : List Int32) (zc : Int32) (hE : Heap) (n0 : Nat) (O : Old Z n0 hE) (P0_ : OStr Z hE va cs) (D0_ : Sta Z Z.heap c1_ c6_ "Z" (.int zc)) (hne : cs.length ≠ 0) (h47 : ∀ c ∈ cs, ¬ ((c.toInt8.toInt32) = (47 : Int32))) (h33 : ∀ c ∈ cs, ¬ ((c.toInt8.toInt32) = (33 : Int32))) (hzc : ¬ (zc = (0 : Int32))) :
    MW la Z hE mn40 jc37 4 none ws (rr 5 4 16 122) #[(.ref k), va, (.ref m), (.ref b)] (Q_segX Z k va m b cs zc hE n0) := by
  rcases P0_ with rfl | ⟨a, t, rfl, S⟩
  · exact rm_segQ la Z a0 hw ws k m b hE n0 O
  · exact rm_segP la Z a0 hw ws k a m b t cs zc hE n0 O S D0_ hne h47 h33 hzc
theorem dj38_0 : decode jc38 0 = .ok (.aload_n 0, 1) := by decide +kernel
theorem dj38_1 : decode jc38 1 = .ok (.invokespecial 1, 3) := by decide +kernel
theorem dj38_4 : decode jc38 4 = .ok (.aload_n 2, 1) := by decide +kernel
theorem dj38_5 : decode jc38 5 = .ok (.ldc 7, 2) := by decide +kernel
theorem dj38_7 : decode jc38 7 = .ok (.invokestatic 9, 3) := by decide +kernel
theorem dj38_10 : decode jc38 10 = .ok (.pop, 1) := by decide +kernel
theorem dj38_11 : decode jc38 11 = .ok (.aload_n 3, 1) := by decide +kernel
theorem dj38_12 : decode jc38 12 = .ok (.ldc 15, 2) := by decide +kernel
theorem dj38_14 : decode jc38 14 = .ok (.invokestatic 9, 3) := by decide +kernel
theorem dj38_17 : decode jc38 17 = .ok (.pop, 1) := by decide +kernel
theorem dj38_18 : decode jc38 18 = .ok (.ldc 17, 2) := by decide +kernel
theorem dj38_20 : decode jc38 20 = .ok (.aload_n 1, 1) := by decide +kernel
theorem dj38_21 : decode jc38 21 = .ok (.aload_n 2, 1) := by decide +kernel
theorem dj38_22 : decode jc38 22 = .ok (.aload_n 3, 1) := by decide +kernel
theorem dj38_23 : decode jc38 23 = .ok (.invokestatic 19, 3) := by decide +kernel
theorem dj38_26 : decode jc38 26 = .ok (.ldc 25, 2) := by decide +kernel
theorem dj38_28 : decode jc38 28 = .ok (.aload_n 2, 1) := by decide +kernel
theorem dj38_29 : decode jc38 29 = .ok (.aload_n 2, 1) := by decide +kernel
theorem dj38_30 : decode jc38 30 = .ok (.aload_n 3, 1) := by decide +kernel
theorem dj38_31 : decode jc38 31 = .ok (.invokestatic 19, 3) := by decide +kernel
theorem dj38_34 : decode jc38 34 = .ok (.ldc 27, 2) := by decide +kernel
theorem dj38_36 : decode jc38 36 = .ok (.aload_n 3, 1) := by decide +kernel
theorem dj38_37 : decode jc38 37 = .ok (.aload_n 2, 1) := by decide +kernel
theorem dj38_38 : decode jc38 38 = .ok (.aload_n 3, 1) := by decide +kernel
theorem dj38_39 : decode jc38 39 = .ok (.invokestatic 19, 3) := by decide +kernel
theorem dj38_42 : decode jc38 42 = .ok (.ldc 29, 2) := by decide +kernel
theorem dj38_44 : decode jc38 44 = .ok (.aload 4, 2) := by decide +kernel
theorem dj38_46 : decode jc38 46 = .ok (.aload_n 2, 1) := by decide +kernel
theorem dj38_47 : decode jc38 47 = .ok (.aload_n 3, 1) := by decide +kernel
theorem dj38_48 : decode jc38 48 = .ok (.invokestatic 19, 3) := by decide +kernel
theorem dj38_51 : decode jc38 51 = .ok (.aload_n 0, 1) := by decide +kernel
theorem dj38_52 : decode jc38 52 = .ok (.aload_n 1, 1) := by decide +kernel
theorem dj38_53 : decode jc38 53 = .ok (.putfield 31, 3) := by decide +kernel
theorem dj38_56 : decode jc38 56 = .ok (.aload_n 0, 1) := by decide +kernel
theorem dj38_57 : decode jc38 57 = .ok (.aload_n 2, 1) := by decide +kernel
theorem dj38_58 : decode jc38 58 = .ok (.putfield 35, 3) := by decide +kernel
theorem dj38_61 : decode jc38 61 = .ok (.aload_n 0, 1) := by decide +kernel
theorem dj38_62 : decode jc38 62 = .ok (.aload_n 3, 1) := by decide +kernel
theorem dj38_63 : decode jc38 63 = .ok (.putfield 37, 3) := by decide +kernel
theorem dj38_66 : decode jc38 66 = .ok (.aload_n 0, 1) := by decide +kernel
theorem dj38_67 : decode jc38 67 = .ok (.aload 4, 2) := by decide +kernel
theorem dj38_69 : decode jc38 69 = .ok (.putfield 39, 3) := by decide +kernel
theorem dj38_72 : decode jc38 72 = .ok (.return_, 1) := by decide +kernel
theorem pd_25 : parseMethodDescriptor "()V" = some ⟨[], none⟩ := by decide +kernel
theorem pd_26 : parseMethodDescriptor "(Ljava/lang/Object;Ljava/lang/String;)Ljava/lang/Object;" = some ⟨[(.object "java/lang/Object"), (.object "java/lang/String")], some (.object "java/lang/Object")⟩ := by decide +kernel
theorem pd_27 : parseMethodDescriptor "(Ljava/lang/String;Ljava/lang/String;Ljava/lang/String;Ljava/lang/String;)V" = some ⟨[(.object "java/lang/String"), (.object "java/lang/String"), (.object "java/lang/String"), (.object "java/lang/String")], none⟩ := by decide +kernel
theorem ef_gin0 (mi : MethodId) (g : Addr) (va : Value) (m : Addr) (b : Addr) (hx_va : va.isRef = true) : entryFrame mi #[(.ref g), va, (.ref m), (.ref b), .null] 5 = mkF mi 0 #[.val (.ref g), .val va, .val (.ref m), .val (.ref b), .val .null] [] := by rcases ref_cases hx_va with rfl | ⟨_, rfl⟩ <;> (first | (simp [entryFrame, mkF, argsToLocals, Value.category]; done) | rfl)
def Q_gin0 (Z : State) (g : Addr) (va : Value) (ca : List Int32) (m tm : Addr) (cm : List Int32) (b tb : Addr) (cb : List Int32) (zc : Int32) (hE : Heap) (n0 : Nat) (vv : Option Value) (hh : Heap) (LL : List Loc) : Prop := (vv = none) ∧ (Fr n0 LL) ∧ (Keep hE hh [g]) ∧ (Exa Z hh g c0_) ∧ (Fld Z hh g c0_ c19_ c4_ (.ref m)) ∧ (Fld Z hh g c0_ "beanName" c4_ (.ref b)) ∧ (Fld Z hh g c0_ "viewName" c4_ .null)
theorem rm_gin0 (hw : HW a0 Z) (ws : List Cond) (g : Addr) (va : Value) (ca : List Int32) (m tm : Addr) (cm : List Int32) (b tb : Addr) (cb : List Int32) (zc : Int32) (hE : Heap) (n0 : Nat) (O : Old Z n0 hE) (P0_ : Exa Z hE g c0_) (P1_ : Fld Z hE g c0_ "appName" c4_ .null) (P2_ : Fld Z hE g c0_ c19_ c4_ .null) (P3_ : Fld Z hE g c0_ "beanName" c4_ .null) (P4_ : Fld Z hE g c0_ "viewName" c4_ .null) (P5_ : OStr Z hE va ca) (P6_ : LStr Z hE m tm cm) (P7_ : LStr Z hE b tb cb) (D0_ : Sta Z Z.heap c1_ c6_ "Z" (.int zc)) (g_g : n0 ≤ g) (ne_m_g : m ≠ g) (ne_tm_g : tm ≠ g) (ne_b_g : b ≠ g) (ne_tb_g : tb ≠ g) (hva : va.isRef = true) (hne_va : ca.length ≠ 0) (h47_va : ∀ c ∈ ca, ¬ ((c.toInt8.toInt32) = (47 : Int32))) (h33_va : ∀ c ∈ ca, ¬ ((c.toInt8.toInt32) = (33 : Int32))) (hne_m : cm.length ≠ 0) (h47_m : ∀ c ∈ cm, ¬ ((c.toInt8.toInt32) = (47 : Int32))) (h33_m : ∀ c ∈ cm, ¬ ((c.toInt8.toInt32) = (33 : Int32))) (hne_b : cb.length ≠ 0) (h47_b : ∀ c ∈ cb, ¬ ((c.toInt8.toInt32) = (47 : Int32))) (h33_b : ∀ c ∈ cb, ¬ ((c.toInt8.toInt32) = (33 : Int32))) (hzc : ¬ (zc = (0 : Int32))) :
    MW la Z hE mn41 jc38 5 none ws (rr 6 20 308 137) #[(.ref g), va, (.ref m), (.ref b), .null] (Q_gin0 Z g va ca m tm cm b tb cb zc hE n0) := by
  refine MetFree.of_bodySF (plainFor_of_name pn_com_example_beanloft_beanloft_naming_GlobalName) hisR ?_
  intro pg ev sb mi gs below me cd s₁ Bd hml0 hPt hKt
  obtain ⟨rfl, hZ, hh, hH⟩ := hPt
  have hx := Bd.exec
  have hby := Bd.bytes
  have hml : cd.maxLocals = 5 := hml0
  have hown : sb.vm.findClass c0_ = some mi.cls := findClass_of_methodNamed Bd.named
  have hnm := (name_of_methodNamed Bd.named Bd.method).1
  have X0 : Stand pg la ev (rr 6 20 308 137) (sb.setVm sb.vm) mi #[(.ref g), va, (.ref m), (.ref b), .null] below me cd s₁ [] 0 0 := Stand.of_body Bd
  have eE : s₁.heap = hE := by rw [← hh, Bd.state]; rfl
  have N0 := Fr.nil n0
  have pre0 : ∀ tt, SP pg ev below (s₁.setTop (mkF mi 0 #[.val (.ref g), .val va, .val (.ref m), .val (.ref b), .val .null] [])) tt → SP pg ev below (s₁.setTop (entryFrame mi #[(.ref g), va, (.ref m), (.ref b), .null] 5)) tt := fun tt kk => castTop (ef_gin0 mi g va m b hva) kk
  have hS : sb.Since sb.vm 0 := (State.WarmedH.refl sb).since 0
  have hk : 0 ≤ hE.size := Nat.zero_le _
  have hEL := own_EW hw
  have C0 := CHr.refl hH
  obtain ⟨v101, _, ⟨T101, L101, k101, n101⟩, -, X101, ⟨Lc101, hQ101, l101, y101, z101⟩, st101⟩ := X0.specialBack hx (y := mn30) rfl hown (mvT hZ (wd54 hw)) (mvT hZ (wd55 hw)) (mvT hZ (wd58 hw)) (by decide) (backOf (W := 0) (rm_rec la Z a0 hw [] g hE n0 O) hZ (wd58 hw) (wd57 hw) (by decide) (by decide)) (g := (mkF mi 1 #[.val (.ref g), .val va, .val (.ref m), .val (.ref b), .val .null] [(.ref g)])) rfl (by rw [hml]; rfl) (Steps.refl _) (a := g) (argsL := []) (rest := []) (lenOf pd_25 rfl) rfl (Nat.le_of_ble_eq_true rfl) (hb hby dj38_1) (fun _ _ => ⟨rfl, eE, (by decide : 0 + 0 ≤ _), (by decide : 0 + 0 ≤ _)⟩)
  dsimp only [Pt.U, Pt.locs, Pt.cells, Pt.slots] at X101 l101 y101 z101 st101 hQ101
  subst l101 y101 z101
  obtain ⟨rfl, Nq101, ek101⟩ := hQ101
  have N101 := Fr.app N0 Nq101
  obtain ⟨a102, T102, h102, k102, X102, e102, E102, hs103, hk104, hZ, hown, c102, lt105, st102⟩ := ldcOH (s := sb.setVm sb.vm) X101 hx hZ hown (wd60 hw) (own_wS hw) ek101 ((State.WarmedH.refl (sb.setVm sb.vm)).since 0) (Nat.zero_le _) hEL C0.1 (g := (mkF mi 5 #[.val (.ref g), .val va, .val (.ref m), .val (.ref b), .val .null] [(.ref m)])) rfl (hb hby dj38_5) (n := 40) (by decide) (by decide) (by decide) (by decide)
  have X102 := own_restand X102
  have hS := hS.trans (⟨hs103.1, hs103.2.mono hk104⟩ : (sb.setVm sb.vm).Since T102.vm h102.size) (Nat.le_trans hk E102.1)
  have hk : h102.size ≤ h102.size := Nat.le_refl _
  have C106 := CHr.trans C0 c102
  have O107 : Old Z n0 h102 := (O.ext E102)
  obtain ⟨v108, _, ⟨T108, L108, k108, n108⟩, -, X108, ⟨Lc108, hQ108, l108, y108, z108⟩, st108⟩ := Jvm.LawKit.callS X102 hx (y := mn31) hown (mvT hZ (wd63 hw)) (mvT hZ (wd64 hw)) (mvT hZ (wd65 hw)) (mvT hZ (wd66 hw)) (by decide) (backOf (W := 0) (rm_rnn2 la Z a0 hw [] m a102 h102 n0 O107) hZ (wd66 hw) (wd65 hw) (by decide) (by decide)) (g := (mkF mi 7 #[.val (.ref g), .val va, .val (.ref m), .val (.ref b), .val .null] [(.ref a102), (.ref m)])) rfl (by rw [hml]; rfl) (argsL := [(.ref m), (.ref a102)]) (rest := []) (lenOf pd_26 rfl) rfl (Nat.le_of_ble_eq_true rfl) (hb hby dj38_7) (fun _ _ => ⟨rfl, e102, (by decide : 2 + 0 ≤ _), (by decide : 44 + 0 ≤ _)⟩)
  dsimp only [Pt.U, Pt.locs, Pt.cells, Pt.slots] at X108 l108 y108 z108 st108 hQ108
  subst l108 y108 z108
  obtain ⟨rfl, Nq108, ek108⟩ := hQ108
  have N108 := Fr.app N101 Nq108
  obtain ⟨a109, T109, h109, k109, X109, e109, E109, hs110, hk111, hZ, hown, c109, lt112, st109⟩ := ldcOH (s := sb.setVm T102.vm) X108 hx hZ hown (wd67 hw) (own_wS hw) ek108 ((State.WarmedH.refl (sb.setVm T102.vm)).since 0) (Nat.zero_le _) hEL C106.1 (g := (mkF mi 12 #[.val (.ref g), .val va, .val (.ref m), .val (.ref b), .val .null] [(.ref b)])) rfl (hb hby dj38_12) (n := 32) (by decide) (by decide) (by decide) (by decide)
  have X109 := own_restand X109
  have hS := hS.trans (⟨hs110.1, hs110.2.mono hk111⟩ : (sb.setVm T102.vm).Since T109.vm h109.size) (Nat.le_trans hk E109.1)
  have hk : h109.size ≤ h109.size := Nat.le_refl _
  have lt113 := Lit.stays (s := sb) lt105 hs110.1
  have C114 := CHr.trans C106 c109
  have O115 : Old Z n0 h109 := (O107.ext E109)
  obtain ⟨v116, _, ⟨T116, L116, k116, n116⟩, -, X116, ⟨Lc116, hQ116, l116, y116, z116⟩, st116⟩ := Jvm.LawKit.callS X109 hx (y := mn31) hown (mvT hZ (wd63 hw)) (mvT hZ (wd64 hw)) (mvT hZ (wd65 hw)) (mvT hZ (wd66 hw)) (by decide) (backOf (W := 0) (rm_rnn2 la Z a0 hw [] b a109 h109 n0 O115) hZ (wd66 hw) (wd65 hw) (by decide) (by decide)) (g := (mkF mi 14 #[.val (.ref g), .val va, .val (.ref m), .val (.ref b), .val .null] [(.ref a109), (.ref b)])) rfl (by rw [hml]; rfl) (argsL := [(.ref b), (.ref a109)]) (rest := []) (lenOf pd_26 rfl) rfl (Nat.le_of_ble_eq_true rfl) (hb hby dj38_14) (fun _ _ => ⟨rfl, e109, (by decide : 4 + 0 ≤ _), (by decide : 80 + 0 ≤ _)⟩)
  dsimp only [Pt.U, Pt.locs, Pt.cells, Pt.slots] at X116 l116 y116 z116 st116 hQ116
  subst l116 y116 z116
  obtain ⟨rfl, Nq116, ek116⟩ := hQ116
  have N116 := Fr.app N108 Nq116
  obtain ⟨a117, T117, h117, k117, X117, e117, E117, hs118, hk119, hZ, hown, c117, lt120, st117⟩ := ldcOH (s := sb.setVm T109.vm) X116 hx hZ hown (wd68 hw) (own_wS hw) ek116 ((State.WarmedH.refl (sb.setVm T109.vm)).since 0) (Nat.zero_le _) hEL C114.1 (g := (mkF mi 18 #[.val (.ref g), .val va, .val (.ref m), .val (.ref b), .val .null] [])) rfl (hb hby dj38_18) (n := 64) (by decide) (by decide) (by decide) (by decide)
  have X117 := own_restand X117
  have hS := hS.trans (⟨hs118.1, hs118.2.mono hk119⟩ : (sb.setVm T109.vm).Since T117.vm h117.size) (Nat.le_trans hk E117.1)
  have hk : h117.size ≤ h117.size := Nat.le_refl _
  have lt121 := Lit.stays (s := sb) lt113 hs118.1
  have lt122 := Lit.stays (s := sb) lt112 hs118.1
  have C123 := CHr.trans C114 c117
  have O124 : Old Z n0 h117 := (O115.ext E117)
  have f125 : OStr Z h117 va ca := (((P5_.ext E102).ext E109).ext E117)
  obtain ⟨v126, _, ⟨T126, L126, k126, n126⟩, -, X126, s126, gr126, ⟨Lc126, hQ126, l126, y126, z126, c126⟩, st126⟩ := callSS X117 hx (y := mn40) hown (mvT hZ (wd69 hw)) (mvT hZ (wd70 hw)) (mvT hZ (wd50 hw)) (mvT hZ (wd71 hw)) (by decide) (backOfSH (W := 0) (rm_segX la Z a0 hw [] a117 va m b ca zc h117 n0 O124 f125 D0_ (hne_va : ca.length ≠ 0) (h47_va : ∀ c ∈ ca, ¬ ((c.toInt8.toInt32) = (47 : Int32))) (h33_va : ∀ c ∈ ca, ¬ ((c.toInt8.toInt32) = (33 : Int32))) (hzc : ¬ (zc = (0 : Int32)))) hZ (wd71 hw) (wd50 hw) (by decide) (by decide) hEL C123.1) (g := (mkF mi 23 #[.val (.ref g), .val va, .val (.ref m), .val (.ref b), .val .null] [(.ref b), (.ref m), va, (.ref a117)])) rfl (by rw [hml]; rfl) (argsL := [(.ref a117), va, (.ref m), (.ref b)]) (rest := []) (lenOf pd_27 rfl) rfl (Nat.le_of_ble_eq_true rfl) (hb hby dj38_23) (fun _ _ => ⟨rfl, e117, (by decide : 6 + 4 ≤ _), (by decide : 148 + 16 ≤ _)⟩)
  dsimp only [Pt.U, Pt.locs, Pt.cells, Pt.slots] at X126 s126 gr126 l126 y126 z126 c126 st126 hQ126
  subst l126 y126 z126
  have lt127 := Lit.stays (s := sb) lt121 s126.1
  have lt128 := Lit.stays (s := sb) lt122 s126.1
  have lt129 := Lit.stays (s := sb) lt120 s126.1
  obtain ⟨X126, hS, hZ, hown⟩ := rebS hS (show _ ≤ T117.heap.size by rw [e117]; exact hk) X126 s126 gr126 hZ hown
  have hk : T126.heap.size ≤ T126.heap.size := Nat.le_refl _
  obtain ⟨rfl, Nq126, Kq126⟩ := hQ126
  have N126 := Fr.app N116 Nq126
  have C130 := CHr.trans C123 c126
  obtain ⟨a131, T131, h131, k131, X131, e131, E131, hs132, hk133, hZ, hown, c131, lt134, st131⟩ := ldcOH (s := sb.setVm T126.vm) X126 hx hZ hown (wd72 hw) (own_wS hw) rfl ((State.WarmedH.refl (sb.setVm T126.vm)).since 0) (Nat.zero_le _) hEL C130.1 (g := (mkF mi 26 #[.val (.ref g), .val va, .val (.ref m), .val (.ref b), .val .null] [])) rfl (hb hby dj38_26) (n := 44) (by decide) (by decide) (by decide) (by decide)
  have X131 := own_restand X131
  have hS := hS.trans (⟨hs132.1, hs132.2.mono hk133⟩ : (sb.setVm T126.vm).Since T131.vm h131.size) (Nat.le_trans hk E131.1)
  have hk : h131.size ≤ h131.size := Nat.le_refl _
  have lt135 := Lit.stays (s := sb) lt127 hs132.1
  have lt136 := Lit.stays (s := sb) lt128 hs132.1
  have lt137 := Lit.stays (s := sb) lt129 hs132.1
  have C138 := CHr.trans C130 c131
  have O139 : Old Z n0 h131 := ((O124.keep Kq126 all0).ext E131)
  have f140 : LStr Z h131 m tm cm := (((((P6_.ext E102).ext E109).ext E117).keep Kq126 nin0 nin0).ext E131)
  obtain ⟨v141, _, ⟨T141, L141, k141, n141⟩, -, X141, s141, gr141, ⟨Lc141, hQ141, l141, y141, z141, c141, ly0_141, lu0_141, ly1_141, lu1_141, ll0_141, ls0_141, ll1_141, ls1_141⟩, st141⟩ := callSS X131 hx (y := mn40) hown (mvT hZ (wd69 hw)) (mvT hZ (wd70 hw)) (mvT hZ (wd50 hw)) (mvT hZ (wd71 hw)) (by decide) (own_backSL (W := 0) (LP := fun vm => True) (LQ := fun vm h => ∃ ly0 lu0 ly1 lu1 : Addr, Lit (Z.setVm vm) c0_ 105 ly0 ∧ LStr Z h ly0 lu0 ([(47 : Int32)] : List Int32) ∧ Lit (Z.setVm vm) c0_ 120 ly1 ∧ LStr Z h ly1 lu1 ([(33 : Int32)] : List Int32)) (fun hW => trivial) (rm_seg la Z a0 hw [] a131 m m b tm cm zc h131 n0 O139 f140 D0_ (hne_m : cm.length ≠ 0) (h47_m : ∀ c ∈ cm, ¬ ((c.toInt8.toInt32) = (47 : Int32))) (h33_m : ∀ c ∈ cm, ¬ ((c.toInt8.toInt32) = (33 : Int32))) (hzc : ¬ (zc = (0 : Int32)))) hZ (wd71 hw) (wd50 hw) (by decide) (by decide) hEL C138.1) (g := (mkF mi 31 #[.val (.ref g), .val va, .val (.ref m), .val (.ref b), .val .null] [(.ref b), (.ref m), (.ref m), (.ref a131)])) rfl (by rw [hml]; rfl) (argsL := [(.ref a131), (.ref m), (.ref m), (.ref b)]) (rest := []) (lenOf pd_27 rfl) rfl (Nat.le_of_ble_eq_true rfl) (hb hby dj38_31) (fun _ _ => ⟨rfl, e131, (by decide : 12 + 4 ≤ _), (by decide : 212 + 16 ≤ _)⟩)
  dsimp only [Pt.U, Pt.locs, Pt.cells, Pt.slots] at X141 s141 gr141 l141 y141 z141 c141 st141 hQ141
  subst l141 y141 z141
  dsimp only [Pt.U] at ll0_141 ls0_141 ll1_141 ls1_141
  have lt142 := Lit.stays (s := sb) lt135 s141.1
  have lt143 := Lit.stays (s := sb) lt136 s141.1
  have lt144 := Lit.stays (s := sb) lt137 s141.1
  have lt145 := Lit.stays (s := sb) lt134 s141.1
  obtain ⟨X141, hS, hZ, hown⟩ := rebS hS (show _ ≤ T131.heap.size by rw [e131]; exact hk) X141 s141 gr141 hZ hown
  have hk : T141.heap.size ≤ T141.heap.size := Nat.le_refl _
  obtain ⟨rfl, Nq141, Kq141⟩ := hQ141
  have N141 := Fr.app N126 Nq141
  have C146 := CHr.trans C138 c141
  obtain ⟨a147, T147, h147, k147, X147, e147, E147, hs148, hk149, hZ, hown, c147, lt150, st147⟩ := ldcOH (s := sb.setVm T141.vm) X141 hx hZ hown (wd115 hw) (own_wS hw) rfl ((State.WarmedH.refl (sb.setVm T141.vm)).since 0) (Nat.zero_le _) hEL C146.1 (g := (mkF mi 34 #[.val (.ref g), .val va, .val (.ref m), .val (.ref b), .val .null] [])) rfl (hb hby dj38_34) (n := 36) (by decide) (by decide) (by decide) (by decide)
  have X147 := own_restand X147
  have hS := hS.trans (⟨hs148.1, hs148.2.mono hk149⟩ : (sb.setVm T141.vm).Since T147.vm h147.size) (Nat.le_trans hk E147.1)
  have hk : h147.size ≤ h147.size := Nat.le_refl _
  have lt151 := Lit.stays (s := sb) lt142 hs148.1
  have lt152 := Lit.stays (s := sb) lt143 hs148.1
  have lt153 := Lit.stays (s := sb) lt144 hs148.1
  have lt154 := Lit.stays (s := sb) lt145 hs148.1
  have lt155 := Lit.stays (s := sb) ll0_141 hs148.1
  have lt156 := Lit.stays (s := sb) ll1_141 hs148.1
  have C157 := CHr.trans C146 c147
  have O158 : Old Z n0 h147 := ((O139.keep Kq141 all0).ext E147)
  have f159 : LStr Z h147 b tb cb := (((((((P7_.ext E102).ext E109).ext E117).keep Kq126 nin0 nin0).ext E131).keep Kq141 nin0 nin0).ext E147)
  have f160 : LStr Z h147 ly0_141 lu0_141 ([(47 : Int32)] : List Int32) := (ls0_141.ext E147)
  have f161 : LStr Z h147 ly1_141 lu1_141 ([(33 : Int32)] : List Int32) := (ls1_141.ext E147)
  obtain ⟨v162, _, ⟨T162, L162, k162, n162⟩, -, X162, s162, gr162, ⟨Lc162, hQ162, l162, y162, z162, c162, -⟩, st162⟩ := callSS X147 hx (y := mn40) hown (mvT hZ (wd69 hw)) (mvT hZ (wd70 hw)) (mvT hZ (wd50 hw)) (mvT hZ (wd71 hw)) (by decide) (own_backSL (W := 0) (LP := fun vm => Lit (Z.setVm vm) c0_ 105 ly0_141 ∧ Lit (Z.setVm vm) c0_ 120 ly1_141) (LQ := fun vm h => True) (fun hW => ⟨Lit.stays (s := sb) lt155 hW, Lit.stays (s := sb) lt156 hW⟩) (rm_segL la Z a0 hw [] a147 b m b tb ly0_141 lu0_141 ly1_141 lu1_141 cb zc h147 n0 O158 f159 f160 f161 D0_ (hne_b : cb.length ≠ 0) (h47_b : ∀ c ∈ cb, ¬ ((c.toInt8.toInt32) = (47 : Int32))) (h33_b : ∀ c ∈ cb, ¬ ((c.toInt8.toInt32) = (33 : Int32))) (hzc : ¬ (zc = (0 : Int32)))) hZ (wd71 hw) (wd50 hw) (by decide) (by decide) hEL C157.1) (g := (mkF mi 39 #[.val (.ref g), .val va, .val (.ref m), .val (.ref b), .val .null] [(.ref b), (.ref m), (.ref b), (.ref a147)])) rfl (by rw [hml]; rfl) (argsL := [(.ref a147), (.ref b), (.ref m), (.ref b)]) (rest := []) (lenOf pd_27 rfl) rfl (Nat.le_of_ble_eq_true rfl) (hb hby dj38_39) (fun _ _ => ⟨rfl, e147, (by decide : 18 + 0 ≤ _), (by decide : 268 + 0 ≤ _)⟩)
  dsimp only [Pt.U, Pt.locs, Pt.cells, Pt.slots] at X162 s162 gr162 l162 y162 z162 c162 st162 hQ162
  subst l162 y162 z162
  have lt163 := Lit.stays (s := sb) lt151 s162.1
  have lt164 := Lit.stays (s := sb) lt152 s162.1
  have lt165 := Lit.stays (s := sb) lt153 s162.1
  have lt166 := Lit.stays (s := sb) lt154 s162.1
  have lt167 := Lit.stays (s := sb) lt155 s162.1
  have lt168 := Lit.stays (s := sb) lt156 s162.1
  have lt169 := Lit.stays (s := sb) lt150 s162.1
  obtain ⟨X162, hS, hZ, hown⟩ := rebS hS (show _ ≤ T147.heap.size by rw [e147]; exact hk) X162 s162 gr162 hZ hown
  have hk : T162.heap.size ≤ T162.heap.size := Nat.le_refl _
  obtain ⟨rfl, Nq162, Kq162⟩ := hQ162
  have N162 := Fr.app N141 Nq162
  have C170 := CHr.trans C157 c162
  obtain ⟨a171, T171, h171, k171, X171, e171, E171, hs172, hk173, hZ, hown, c171, lt174, st171⟩ := ldcOH (s := sb.setVm T162.vm) X162 hx hZ hown (wd116 hw) (own_wS hw) rfl ((State.WarmedH.refl (sb.setVm T162.vm)).since 0) (Nat.zero_le _) hEL C170.1 (g := (mkF mi 42 #[.val (.ref g), .val va, .val (.ref m), .val (.ref b), .val .null] [])) rfl (hb hby dj38_42) (n := 36) (by decide) (by decide) (by decide) (by decide)
  have X171 := own_restand X171
  have hS := hS.trans (⟨hs172.1, hs172.2.mono hk173⟩ : (sb.setVm T162.vm).Since T171.vm h171.size) (Nat.le_trans hk E171.1)
  have hk : h171.size ≤ h171.size := Nat.le_refl _
  have lt175 := Lit.stays (s := sb) lt163 hs172.1
  have lt176 := Lit.stays (s := sb) lt164 hs172.1
  have lt177 := Lit.stays (s := sb) lt165 hs172.1
  have lt178 := Lit.stays (s := sb) lt166 hs172.1
  have lt179 := Lit.stays (s := sb) lt167 hs172.1
  have lt180 := Lit.stays (s := sb) lt168 hs172.1
  have lt181 := Lit.stays (s := sb) lt169 hs172.1
  have C182 := CHr.trans C170 c171
  have O183 : Old Z n0 h171 := ((O158.keep Kq162 all0).ext E171)
  obtain ⟨v184, _, ⟨T184, L184, k184, n184⟩, -, X184, ⟨Lc184, hQ184, l184, y184, z184⟩, st184⟩ := Jvm.LawKit.callS X171 hx (y := mn40) hown (mvT hZ (wd69 hw)) (mvT hZ (wd70 hw)) (mvT hZ (wd50 hw)) (mvT hZ (wd71 hw)) (by decide) (backOf (W := 0) (rm_segN la Z a0 hw [] a171 m b h171 n0 O183) hZ (wd71 hw) (wd50 hw) (by decide) (by decide)) (g := (mkF mi 48 #[.val (.ref g), .val va, .val (.ref m), .val (.ref b), .val .null] [(.ref b), (.ref m), .null, (.ref a171)])) rfl (by rw [hml]; rfl) (argsL := [(.ref a171), .null, (.ref m), (.ref b)]) (rest := []) (lenOf pd_27 rfl) rfl (Nat.le_of_ble_eq_true rfl) (hb hby dj38_48) (fun _ _ => ⟨rfl, e171, (by decide : 20 + 0 ≤ _), (by decide : 308 + 0 ≤ _)⟩)
  dsimp only [Pt.U, Pt.locs, Pt.cells, Pt.slots] at X184 l184 y184 z184 st184 hQ184
  subst l184 y184 z184
  obtain ⟨rfl, Nq184, ek184⟩ := hQ184
  have N184 := Fr.app N162 Nq184
  have f185 : Exa Z h171 g c0_ := (((((((((P0_.ext E102).ext E109).ext E117).keep Kq126).ext E131).keep Kq141).ext E147).keep Kq162).ext E171)
  have f186 : Fld Z h171 g c0_ "appName" c4_ .null := (((((((((P1_.ext E102).ext E109).ext E117).keep Kq126 nin0).ext E131).keep Kq141 nin0).ext E147).keep Kq162 nin0).ext E171)
  obtain ⟨T187, h187, X187, e187, W187, st187⟩ := putF X184 hx hZ hown (host := "") (Or.inl (wd117 hw)) Via.refl ek184 f186 f185 (Or.inr ⟨(wd118 hw), rfl, hnm⟩) (wd49 hw) (ty := (.object c1_)) (by decide) (own_narX hva) (own_fitX hva) (g := (mkF mi 53 #[.val (.ref g), .val va, .val (.ref m), .val (.ref b), .val .null] [va, (.ref g)])) rfl rfl (hb hby dj38_53)
  have N187 := Fr.snoc X187 N184 g_g
  have c188 := CHr.keep (Keep.of_wr W187) (sfS (Safe.exa hZ.alike f185 (by decide) (by decide)) sf0) C182.1
  have C189 := CHr.trans C182 c188
  have f190 : Fld Z h187 g c0_ "appName" c4_ va := f186.same W187
  have f191 : Exa Z h187 g c0_ := (f185.keep (Keep.of_wr W187))
  have f192 : Fld Z h187 g c0_ c19_ c4_ .null := ((((((((((P2_.ext E102).ext E109).ext E117).keep Kq126 nin0).ext E131).keep Kq141 nin0).ext E147).keep Kq162 nin0).ext E171).other W187 (Or.inr (slot_ne (Or.inr (wd120 hw)) (Or.inr (wd118 hw)) (by decide) (t := (.object c1_)) (t' := (.object c1_)) (by decide) (by decide))))
  obtain ⟨T193, h193, X193, e193, W193, st193⟩ := putF X187 hx hZ hown (host := "") (Or.inl (wd119 hw)) Via.refl e187 f192 f191 (Or.inr ⟨(wd120 hw), rfl, hnm⟩) (wd49 hw) (ty := (.object c1_)) (by decide) rfl rfl (g := (mkF mi 58 #[.val (.ref g), .val va, .val (.ref m), .val (.ref b), .val .null] [(.ref m), (.ref g)])) rfl rfl (hb hby dj38_58)
  have N193 := Fr.snoc X193 N187 g_g
  have c194 := CHr.keep (Keep.of_wr W193) (sfS (Safe.exa hZ.alike f191 (by decide) (by decide)) sf0) C189.1
  have C195 := CHr.trans C189 c194
  have f196 : Fld Z h193 g c0_ c19_ c4_ (.ref m) := f192.same W193
  have f197 : Exa Z h193 g c0_ := (f191.keep (Keep.of_wr W193))
  have f198 : Fld Z h193 g c0_ "beanName" c4_ .null := (((((((((((P3_.ext E102).ext E109).ext E117).keep Kq126 nin0).ext E131).keep Kq141 nin0).ext E147).keep Kq162 nin0).ext E171).other W187 (Or.inr (slot_ne (Or.inr (wd122 hw)) (Or.inr (wd118 hw)) (by decide) (t := (.object c1_)) (t' := (.object c1_)) (by decide) (by decide)))).other W193 (Or.inr (slot_ne (Or.inr (wd122 hw)) (Or.inr (wd120 hw)) (by decide) (t := (.object c1_)) (t' := (.object c1_)) (by decide) (by decide))))
  obtain ⟨T199, h199, X199, e199, W199, st199⟩ := putF X193 hx hZ hown (host := "") (Or.inl (wd121 hw)) Via.refl e193 f198 f197 (Or.inr ⟨(wd122 hw), rfl, hnm⟩) (wd49 hw) (ty := (.object c1_)) (by decide) rfl rfl (g := (mkF mi 63 #[.val (.ref g), .val va, .val (.ref m), .val (.ref b), .val .null] [(.ref b), (.ref g)])) rfl rfl (hb hby dj38_63)
  have N199 := Fr.snoc X199 N193 g_g
  have c200 := CHr.keep (Keep.of_wr W199) (sfS (Safe.exa hZ.alike f197 (by decide) (by decide)) sf0) C195.1
  have C201 := CHr.trans C195 c200
  have f202 : Fld Z h199 g c0_ "beanName" c4_ (.ref b) := f198.same W199
  have f203 : Exa Z h199 g c0_ := (f197.keep (Keep.of_wr W199))
  have f204 : Fld Z h199 g c0_ "viewName" c4_ .null := ((((((((((((P4_.ext E102).ext E109).ext E117).keep Kq126 nin0).ext E131).keep Kq141 nin0).ext E147).keep Kq162 nin0).ext E171).other W187 (Or.inr (slot_ne (Or.inr (wd124 hw)) (Or.inr (wd118 hw)) (by decide) (t := (.object c1_)) (t' := (.object c1_)) (by decide) (by decide)))).other W193 (Or.inr (slot_ne (Or.inr (wd124 hw)) (Or.inr (wd120 hw)) (by decide) (t := (.object c1_)) (t' := (.object c1_)) (by decide) (by decide)))).other W199 (Or.inr (slot_ne (Or.inr (wd124 hw)) (Or.inr (wd122 hw)) (by decide) (t := (.object c1_)) (t' := (.object c1_)) (by decide) (by decide))))
  obtain ⟨T205, h205, X205, e205, W205, st205⟩ := putF X199 hx hZ hown (host := "") (Or.inl (wd123 hw)) Via.refl e199 f204 f203 (Or.inr ⟨(wd124 hw), rfl, hnm⟩) (wd49 hw) (ty := (.object c1_)) (by decide) rfl rfl (g := (mkF mi 69 #[.val (.ref g), .val va, .val (.ref m), .val (.ref b), .val .null] [.null, (.ref g)])) rfl rfl (hb hby dj38_69)
  have N205 := Fr.snoc X205 N199 g_g
  have c206 := CHr.keep (Keep.of_wr W205) (sfS (Safe.exa hZ.alike f203 (by decide) (by decide)) sf0) C201.1
  have C207 := CHr.trans C201 c206
  have f208 : Fld Z h205 g c0_ "viewName" c4_ .null := f204.same W205
  have f209 : Exa Z h205 g c0_ := (f203.keep (Keep.of_wr W205))
  have f210 : Fld Z h205 g c0_ c19_ c4_ (.ref m) := ((f196.other W199 (Or.inr (slot_ne (Or.inr (wd120 hw)) (Or.inr (wd122 hw)) (by decide) (t := (.object c1_)) (t' := (.object c1_)) (by decide) (by decide)))).other W205 (Or.inr (slot_ne (Or.inr (wd120 hw)) (Or.inr (wd124 hw)) (by decide) (t := (.object c1_)) (t' := (.object c1_)) (by decide) (by decide))))
  have f211 : Fld Z h205 g c0_ "beanName" c4_ (.ref b) := (f202.other W205 (Or.inr (slot_ne (Or.inr (wd122 hw)) (Or.inr (wd124 hw)) (by decide) (t := (.object c1_)) (t' := (.object c1_)) (by decide) (by decide))))
  obtain ⟨fs, hr, hrun, hended, hWe⟩ := X205.leaveW hS (show _ ≤ T205.heap.size by rw [e205]; exact (Nat.le_trans hk (Nat.le_trans (Nat.le_trans (Nat.le_trans (Keep.of_wr W187).1 (Keep.of_wr W193).1) (Keep.of_wr W199).1) (Keep.of_wr W205).1))) (v := none) (fun _ => rfl)
  refine ⟨_, _, pre0 _ ?_, hrun, hended, _, _, rfl, ?_, ?_, hWe.1, hWe.2.1, hWe.2.2.1, hWe.2.2.2.mono (by decide) (by decide)⟩
  · show SP pg ev below (s₁.setTop (mkF mi 0 #[.val (.ref g), .val va, .val (.ref m), .val (.ref b), .val .null] [])) _
    refine XS.aloadN X0.here hx rfl (hb hby dj38_0) rfl rfl ?_
    refine st101.trans ?_
    refine XS.aloadN X101.here hx rfl (hb hby dj38_4) rfl rfl ?_
    refine st102 _ ?_
    refine st108 _ ?_
    refine XS.pop X108.here hx rfl (hb hby dj38_10) rfl rfl ?_
    refine XS.aloadN X108.here hx rfl (hb hby dj38_11) rfl rfl ?_
    refine st109 _ ?_
    refine st116 _ ?_
    refine XS.pop X116.here hx rfl (hb hby dj38_17) rfl rfl ?_
    refine st117 _ ?_
    refine XS.aloadN X117.here hx rfl (hb hby dj38_20) rfl hva ?_
    refine XS.aloadN X117.here hx rfl (hb hby dj38_21) rfl rfl ?_
    refine XS.aloadN X117.here hx rfl (hb hby dj38_22) rfl rfl ?_
    refine st126.trans ?_
    refine st131 _ ?_
    refine XS.aloadN X131.here hx rfl (hb hby dj38_28) rfl rfl ?_
    refine XS.aloadN X131.here hx rfl (hb hby dj38_29) rfl rfl ?_
    refine XS.aloadN X131.here hx rfl (hb hby dj38_30) rfl rfl ?_
    refine st141.trans ?_
    refine st147 _ ?_
    refine XS.aloadN X147.here hx rfl (hb hby dj38_36) rfl rfl ?_
    refine XS.aloadN X147.here hx rfl (hb hby dj38_37) rfl rfl ?_
    refine XS.aloadN X147.here hx rfl (hb hby dj38_38) rfl rfl ?_
    refine st162.trans ?_
    refine st171 _ ?_
    refine XS.aload X171.here hx rfl (hb hby dj38_44) rfl rfl ?_
    refine XS.aloadN X171.here hx rfl (hb hby dj38_46) rfl rfl ?_
    refine XS.aloadN X171.here hx rfl (hb hby dj38_47) rfl rfl ?_
    refine st184 _ ?_
    refine XS.aloadN X184.here hx rfl (hb hby dj38_51) rfl rfl ?_
    refine XS.aloadN X184.here hx rfl (hb hby dj38_52) rfl hva ?_
    refine st187 _ ?_
    refine XS.aloadN X187.here hx rfl (hb hby dj38_56) rfl rfl ?_
    refine XS.aloadN X187.here hx rfl (hb hby dj38_57) rfl rfl ?_
    refine st193 _ ?_
    refine XS.aloadN X193.here hx rfl (hb hby dj38_61) rfl rfl ?_
    refine XS.aloadN X193.here hx rfl (hb hby dj38_62) rfl rfl ?_
    refine st199 _ ?_
    refine XS.aloadN X199.here hx rfl (hb hby dj38_66) rfl rfl ?_
    show SP pg ev below (T199.setTop (mkF mi 67 #[.val (.ref g), .val va, .val (.ref m), .val (.ref b), .val .null] [(.ref g)])) _
    refine XS.aload X199.here hx rfl (hb hby dj38_67) rfl rfl ?_
    refine st205 _ ?_
    show SP pg ev below (T205.setTop (mkF mi 72 #[.val (.ref g), .val va, .val (.ref m), .val (.ref b), .val .null] [])) _
    exact X205.returnOut hx Bd.returns (hb hby dj38_72) hr
  · show Q_gin0 Z g va ca m tm cm b tb cb zc hE n0 _ T205.heap _
    rw [e205]
    exact ⟨rfl, N205, ((((((((((((((Keep.refl hE [g]).ext E102).ext E109).ext E117).trans Kq126 all0).ext E131).trans Kq141 all0).ext E147).trans Kq162 all0).ext E171).trans (Keep.of_wr W187) (allS (Or.inl (List.mem_of_getElem? (i := 0) rfl)) all0)).trans (Keep.of_wr W193) (allS (Or.inl (List.mem_of_getElem? (i := 0) rfl)) all0)).trans (Keep.of_wr W199) (allS (Or.inl (List.mem_of_getElem? (i := 0) rfl)) all0)).trans (Keep.of_wr W205) (allS (Or.inl (List.mem_of_getElem? (i := 0) rfl)) all0)), f209, f210, f211, f208⟩
  · show CHr Z ELs sb.vm sb.heap T205.vm T205.heap
    rw [hh, e205]
    exact CHr.trans C207 (CHv.at X205 hZ hEL C207.1)
theorem ef_gin1 (mi : MethodId) (g : Addr) (va : Value) (m : Addr) (b : Addr) (v : Addr) (hx_va : va.isRef = true) : entryFrame mi #[(.ref g), va, (.ref m), (.ref b), (.ref v)] 5 = mkF mi 0 #[.val (.ref g), .val va, .val (.ref m), .val (.ref b), .val (.ref v)] [] := by rcases ref_cases hx_va with rfl | ⟨_, rfl⟩ <;> (first | (simp [entryFrame, mkF, argsToLocals, Value.category]; done) | rfl)
def Q_gin1 (Z : State) (g : Addr) (va : Value) (ca : List Int32) (m tm : Addr) (cm : List Int32) (b tb : Addr) (cb : List Int32) (v tv : Addr) (cv : List Int32) (zc : Int32) (hE : Heap) (n0 : Nat) (vv : Option Value) (hh : Heap) (LL : List Loc) : Prop := (vv = none) ∧ (Fr n0 LL) ∧ (Keep hE hh [g]) ∧ (Exa Z hh g c0_) ∧ (Fld Z hh g c0_ c19_ c4_ (.ref m)) ∧ (Fld Z hh g c0_ "beanName" c4_ (.ref b)) ∧ (Fld Z hh g c0_ "viewName" c4_ (.ref v))
theorem rm_gin1 (hw : HW a0 Z) (ws : List Cond) (g : Addr) (va : Value) (ca : List Int32) (m tm : Addr) (cm : List Int32) (b tb : Addr) (cb : List Int32) (v tv : Addr) (cv : List Int32) (zc : Int32) (hE : Heap) (n0 : Nat) (O : Old Z n0 hE) (P0_ : Exa Z hE g c0_) (P1_ : Fld Z hE g c0_ "appName" c4_ .null) (P2_ : Fld Z hE g c0_ c19_ c4_ .null) (P3_ : Fld Z hE g c0_ "beanName" c4_ .null) (P4_ : Fld Z hE g c0_ "viewName" c4_ .null) (P5_ : OStr Z hE va ca) (P6_ : LStr Z hE m tm cm) (P7_ : LStr Z hE b tb cb) (P8_ : LStr Z hE v tv cv) (D0_ : Sta Z Z.heap c1_ c6_ "Z" (.int zc)) (g_g : n0 ≤ g) (ne_m_g : m ≠ g) (ne_tm_g : tm ≠ g) (ne_b_g : b ≠ g) (ne_tb_g : tb ≠ g) (ne_v_g : v ≠ g) (ne_tv_g : tv ≠ g) (hva : va.isRef = true) (hne_va : ca.length ≠ 0) (h47_va : ∀ c ∈ ca, ¬ ((c.toInt8.toInt32) = (47 : Int32))) (h33_va : ∀ c ∈ ca, ¬ ((c.toInt8.toInt32) = (33 : Int32))) (hne_m : cm.length ≠ 0) (h47_m : ∀ c ∈ cm, ¬ ((c.toInt8.toInt32) = (47 : Int32))) (h33_m : ∀ c ∈ cm, ¬ ((c.toInt8.toInt32) = (33 : Int32))) (hne_b : cb.length ≠ 0) (h47_b : ∀ c ∈ cb, ¬ ((c.toInt8.toInt32) = (47 : Int32))) (h33_b : ∀ c ∈ cb, ¬ ((c.toInt8.toInt32) = (33 : Int32))) (hne_v : cv.length ≠ 0) (h47_v : ∀ c ∈ cv, ¬ ((c.toInt8.toInt32) = (47 : Int32))) (h33_v : ∀ c ∈ cv, ¬ ((c.toInt8.toInt32) = (33 : Int32))) (hzc : ¬ (zc = (0 : Int32))) :
    MW la Z hE mn41 jc38 5 none ws (rr 6 20 308 137) #[(.ref g), va, (.ref m), (.ref b), (.ref v)] (Q_gin1 Z g va ca m tm cm b tb cb v tv cv zc hE n0) := by
  refine MetFree.of_bodySF (plainFor_of_name pn_com_example_beanloft_beanloft_naming_GlobalName) hisR ?_
  intro pg ev sb mi gs below me cd s₁ Bd hml0 hPt hKt
  obtain ⟨rfl, hZ, hh, hH⟩ := hPt
  have hx := Bd.exec
  have hby := Bd.bytes
  have hml : cd.maxLocals = 5 := hml0
  have hown : sb.vm.findClass c0_ = some mi.cls := findClass_of_methodNamed Bd.named
  have hnm := (name_of_methodNamed Bd.named Bd.method).1
  have X0 : Stand pg la ev (rr 6 20 308 137) (sb.setVm sb.vm) mi #[(.ref g), va, (.ref m), (.ref b), (.ref v)] below me cd s₁ [] 0 0 := Stand.of_body Bd
  have eE : s₁.heap = hE := by rw [← hh, Bd.state]; rfl
  have N0 := Fr.nil n0
  have pre0 : ∀ tt, SP pg ev below (s₁.setTop (mkF mi 0 #[.val (.ref g), .val va, .val (.ref m), .val (.ref b), .val (.ref v)] [])) tt → SP pg ev below (s₁.setTop (entryFrame mi #[(.ref g), va, (.ref m), (.ref b), (.ref v)] 5)) tt := fun tt kk => castTop (ef_gin1 mi g va m b v hva) kk
  have hS : sb.Since sb.vm 0 := (State.WarmedH.refl sb).since 0
  have hk : 0 ≤ hE.size := Nat.zero_le _
  have hEL := own_EW hw
  have C0 := CHr.refl hH
  obtain ⟨v101, _, ⟨T101, L101, k101, n101⟩, -, X101, ⟨Lc101, hQ101, l101, y101, z101⟩, st101⟩ := X0.specialBack hx (y := mn30) rfl hown (mvT hZ (wd54 hw)) (mvT hZ (wd55 hw)) (mvT hZ (wd58 hw)) (by decide) (backOf (W := 0) (rm_rec la Z a0 hw [] g hE n0 O) hZ (wd58 hw) (wd57 hw) (by decide) (by decide)) (g := (mkF mi 1 #[.val (.ref g), .val va, .val (.ref m), .val (.ref b), .val (.ref v)] [(.ref g)])) rfl (by rw [hml]; rfl) (Steps.refl _) (a := g) (argsL := []) (rest := []) (lenOf pd_25 rfl) rfl (Nat.le_of_ble_eq_true rfl) (hb hby dj38_1) (fun _ _ => ⟨rfl, eE, (by decide : 0 + 0 ≤ _), (by decide : 0 + 0 ≤ _)⟩)
  dsimp only [Pt.U, Pt.locs, Pt.cells, Pt.slots] at X101 l101 y101 z101 st101 hQ101
  subst l101 y101 z101
  obtain ⟨rfl, Nq101, ek101⟩ := hQ101
  have N101 := Fr.app N0 Nq101
  obtain ⟨a102, T102, h102, k102, X102, e102, E102, hs103, hk104, hZ, hown, c102, lt105, st102⟩ := ldcOH (s := sb.setVm sb.vm) X101 hx hZ hown (wd60 hw) (own_wS hw) ek101 ((State.WarmedH.refl (sb.setVm sb.vm)).since 0) (Nat.zero_le _) hEL C0.1 (g := (mkF mi 5 #[.val (.ref g), .val va, .val (.ref m), .val (.ref b), .val (.ref v)] [(.ref m)])) rfl (hb hby dj38_5) (n := 40) (by decide) (by decide) (by decide) (by decide)
  have X102 := own_restand X102
  have hS := hS.trans (⟨hs103.1, hs103.2.mono hk104⟩ : (sb.setVm sb.vm).Since T102.vm h102.size) (Nat.le_trans hk E102.1)
  have hk : h102.size ≤ h102.size := Nat.le_refl _
  have C106 := CHr.trans C0 c102
  have O107 : Old Z n0 h102 := (O.ext E102)
  obtain ⟨v108, _, ⟨T108, L108, k108, n108⟩, -, X108, ⟨Lc108, hQ108, l108, y108, z108⟩, st108⟩ := Jvm.LawKit.callS X102 hx (y := mn31) hown (mvT hZ (wd63 hw)) (mvT hZ (wd64 hw)) (mvT hZ (wd65 hw)) (mvT hZ (wd66 hw)) (by decide) (backOf (W := 0) (rm_rnn2 la Z a0 hw [] m a102 h102 n0 O107) hZ (wd66 hw) (wd65 hw) (by decide) (by decide)) (g := (mkF mi 7 #[.val (.ref g), .val va, .val (.ref m), .val (.ref b), .val (.ref v)] [(.ref a102), (.ref m)])) rfl (by rw [hml]; rfl) (argsL := [(.ref m), (.ref a102)]) (rest := []) (lenOf pd_26 rfl) rfl (Nat.le_of_ble_eq_true rfl) (hb hby dj38_7) (fun _ _ => ⟨rfl, e102, (by decide : 2 + 0 ≤ _), (by decide : 44 + 0 ≤ _)⟩)
  dsimp only [Pt.U, Pt.locs, Pt.cells, Pt.slots] at X108 l108 y108 z108 st108 hQ108
  subst l108 y108 z108
  obtain ⟨rfl, Nq108, ek108⟩ := hQ108
  have N108 := Fr.app N101 Nq108
  obtain ⟨a109, T109, h109, k109, X109, e109, E109, hs110, hk111, hZ, hown, c109, lt112, st109⟩ := ldcOH (s := sb.setVm T102.vm) X108 hx hZ hown (wd67 hw) (own_wS hw) ek108 ((State.WarmedH.refl (sb.setVm T102.vm)).since 0) (Nat.zero_le _) hEL C106.1 (g := (mkF mi 12 #[.val (.ref g), .val va, .val (.ref m), .val (.ref b), .val (.ref v)] [(.ref b)])) rfl (hb hby dj38_12) (n := 32) (by decide) (by decide) (by decide) (by decide)
  have X109 := own_restand X109
  have hS := hS.trans (⟨hs110.1, hs110.2.mono hk111⟩ : (sb.setVm T102.vm).Since T109.vm h109.size) (Nat.le_trans hk E109.1)
  have hk : h109.size ≤ h109.size := Nat.le_refl _
  have lt113 := Lit.stays (s := sb) lt105 hs110.1
  have C114 := CHr.trans C106 c109
  have O115 : Old Z n0 h109 := (O107.ext E109)
  obtain ⟨v116, _, ⟨T116, L116, k116, n116⟩, -, X116, ⟨Lc116, hQ116, l116, y116, z116⟩, st116⟩ := Jvm.LawKit.callS X109 hx (y := mn31) hown (mvT hZ (wd63 hw)) (mvT hZ (wd64 hw)) (mvT hZ (wd65 hw)) (mvT hZ (wd66 hw)) (by decide) (backOf (W := 0) (rm_rnn2 la Z a0 hw [] b a109 h109 n0 O115) hZ (wd66 hw) (wd65 hw) (by decide) (by decide)) (g := (mkF mi 14 #[.val (.ref g), .val va, .val (.ref m), .val (.ref b), .val (.ref v)] [(.ref a109), (.ref b)])) rfl (by rw [hml]; rfl) (argsL := [(.ref b), (.ref a109)]) (rest := []) (lenOf pd_26 rfl) rfl (Nat.le_of_ble_eq_true rfl) (hb hby dj38_14) (fun _ _ => ⟨rfl, e109, (by decide : 4 + 0 ≤ _), (by decide : 80 + 0 ≤ _)⟩)
  dsimp only [Pt.U, Pt.locs, Pt.cells, Pt.slots] at X116 l116 y116 z116 st116 hQ116
  subst l116 y116 z116
  obtain ⟨rfl, Nq116, ek116⟩ := hQ116
  have N116 := Fr.app N108 Nq116
  obtain ⟨a117, T117, h117, k117, X117, e117, E117, hs118, hk119, hZ, hown, c117, lt120, st117⟩ := ldcOH (s := sb.setVm T109.vm) X116 hx hZ hown (wd68 hw) (own_wS hw) ek116 ((State.WarmedH.refl (sb.setVm T109.vm)).since 0) (Nat.zero_le _) hEL C114.1 (g := (mkF mi 18 #[.val (.ref g), .val va, .val (.ref m), .val (.ref b), .val (.ref v)] [])) rfl (hb hby dj38_18) (n := 64) (by decide) (by decide) (by decide) (by decide)
  have X117 := own_restand X117
  have hS := hS.trans (⟨hs118.1, hs118.2.mono hk119⟩ : (sb.setVm T109.vm).Since T117.vm h117.size) (Nat.le_trans hk E117.1)
  have hk : h117.size ≤ h117.size := Nat.le_refl _
  have lt121 := Lit.stays (s := sb) lt113 hs118.1
  have lt122 := Lit.stays (s := sb) lt112 hs118.1
  have C123 := CHr.trans C114 c117
  have O124 : Old Z n0 h117 := (O115.ext E117)
  have f125 : OStr Z h117 va ca := (((P5_.ext E102).ext E109).ext E117)
  obtain ⟨v126, _, ⟨T126, L126, k126, n126⟩, -, X126, s126, gr126, ⟨Lc126, hQ126, l126, y126, z126, c126⟩, st126⟩ := callSS X117 hx (y := mn40) hown (mvT hZ (wd69 hw)) (mvT hZ (wd70 hw)) (mvT hZ (wd50 hw)) (mvT hZ (wd71 hw)) (by decide) (backOfSH (W := 0) (rm_segX la Z a0 hw [] a117 va m b ca zc h117 n0 O124 f125 D0_ (hne_va : ca.length ≠ 0) (h47_va : ∀ c ∈ ca, ¬ ((c.toInt8.toInt32) = (47 : Int32))) (h33_va : ∀ c ∈ ca, ¬ ((c.toInt8.toInt32) = (33 : Int32))) (hzc : ¬ (zc = (0 : Int32)))) hZ (wd71 hw) (wd50 hw) (by decide) (by decide) hEL C123.1) (g := (mkF mi 23 #[.val (.ref g), .val va, .val (.ref m), .val (.ref b), .val (.ref v)] [(.ref b), (.ref m), va, (.ref a117)])) rfl (by rw [hml]; rfl) (argsL := [(.ref a117), va, (.ref m), (.ref b)]) (rest := []) (lenOf pd_27 rfl) rfl (Nat.le_of_ble_eq_true rfl) (hb hby dj38_23) (fun _ _ => ⟨rfl, e117, (by decide : 6 + 4 ≤ _), (by decide : 148 + 16 ≤ _)⟩)
  dsimp only [Pt.U, Pt.locs, Pt.cells, Pt.slots] at X126 s126 gr126 l126 y126 z126 c126 st126 hQ126
  subst l126 y126 z126
  have lt127 := Lit.stays (s := sb) lt121 s126.1
  have lt128 := Lit.stays (s := sb) lt122 s126.1
  have lt129 := Lit.stays (s := sb) lt120 s126.1
  obtain ⟨X126, hS, hZ, hown⟩ := rebS hS (show _ ≤ T117.heap.size by rw [e117]; exact hk) X126 s126 gr126 hZ hown
  have hk : T126.heap.size ≤ T126.heap.size := Nat.le_refl _
  obtain ⟨rfl, Nq126, Kq126⟩ := hQ126
  have N126 := Fr.app N116 Nq126
  have C130 := CHr.trans C123 c126
  obtain ⟨a131, T131, h131, k131, X131, e131, E131, hs132, hk133, hZ, hown, c131, lt134, st131⟩ := ldcOH (s := sb.setVm T126.vm) X126 hx hZ hown (wd72 hw) (own_wS hw) rfl ((State.WarmedH.refl (sb.setVm T126.vm)).since 0) (Nat.zero_le _) hEL C130.1 (g := (mkF mi 26 #[.val (.ref g), .val va, .val (.ref m), .val (.ref b), .val (.ref v)] [])) rfl (hb hby dj38_26) (n := 44) (by decide) (by decide) (by decide) (by decide)
  have X131 := own_restand X131
  have hS := hS.trans (⟨hs132.1, hs132.2.mono hk133⟩ : (sb.setVm T126.vm).Since T131.vm h131.size) (Nat.le_trans hk E131.1)
  have hk : h131.size ≤ h131.size := Nat.le_refl _
  have lt135 := Lit.stays (s := sb) lt127 hs132.1
  have lt136 := Lit.stays (s := sb) lt128 hs132.1
  have lt137 := Lit.stays (s := sb) lt129 hs132.1
  have C138 := CHr.trans C130 c131
  have O139 : Old Z n0 h131 := ((O124.keep Kq126 all0).ext E131)
  have f140 : LStr Z h131 m tm cm := (((((P6_.ext E102).ext E109).ext E117).keep Kq126 nin0 nin0).ext E131)
  obtain ⟨v141, _, ⟨T141, L141, k141, n141⟩, -, X141, s141, gr141, ⟨Lc141, hQ141, l141, y141, z141, c141, ly0_141, lu0_141, ly1_141, lu1_141, ll0_141, ls0_141, ll1_141, ls1_141⟩, st141⟩ := callSS X131 hx (y := mn40) hown (mvT hZ (wd69 hw)) (mvT hZ (wd70 hw)) (mvT hZ (wd50 hw)) (mvT hZ (wd71 hw)) (by decide) (own_backSL (W := 0) (LP := fun vm => True) (LQ := fun vm h => ∃ ly0 lu0 ly1 lu1 : Addr, Lit (Z.setVm vm) c0_ 105 ly0 ∧ LStr Z h ly0 lu0 ([(47 : Int32)] : List Int32) ∧ Lit (Z.setVm vm) c0_ 120 ly1 ∧ LStr Z h ly1 lu1 ([(33 : Int32)] : List Int32)) (fun hW => trivial) (rm_seg la Z a0 hw [] a131 m m b tm cm zc h131 n0 O139 f140 D0_ (hne_m : cm.length ≠ 0) (h47_m : ∀ c ∈ cm, ¬ ((c.toInt8.toInt32) = (47 : Int32))) (h33_m : ∀ c ∈ cm, ¬ ((c.toInt8.toInt32) = (33 : Int32))) (hzc : ¬ (zc = (0 : Int32)))) hZ (wd71 hw) (wd50 hw) (by decide) (by decide) hEL C138.1) (g := (mkF mi 31 #[.val (.ref g), .val va, .val (.ref m), .val (.ref b), .val (.ref v)] [(.ref b), (.ref m), (.ref m), (.ref a131)])) rfl (by rw [hml]; rfl) (argsL := [(.ref a131), (.ref m), (.ref m), (.ref b)]) (rest := []) (lenOf pd_27 rfl) rfl (Nat.le_of_ble_eq_true rfl) (hb hby dj38_31) (fun _ _ => ⟨rfl, e131, (by decide : 12 + 4 ≤ _), (by decide : 212 + 16 ≤ _)⟩)
  dsimp only [Pt.U, Pt.locs, Pt.cells, Pt.slots] at X141 s141 gr141 l141 y141 z141 c141 st141 hQ141
  subst l141 y141 z141
  dsimp only [Pt.U] at ll0_141 ls0_141 ll1_141 ls1_141
  have lt142 := Lit.stays (s := sb) lt135 s141.1
  have lt143 := Lit.stays (s := sb) lt136 s141.1
  have lt144 := Lit.stays (s := sb) lt137 s141.1
  have lt145 := Lit.stays (s := sb) lt134 s141.1
  obtain ⟨X141, hS, hZ, hown⟩ := rebS hS (show _ ≤ T131.heap.size by rw [e131]; exact hk) X141 s141 gr141 hZ hown
  have hk : T141.heap.size ≤ T141.heap.size := Nat.le_refl _
  obtain ⟨rfl, Nq141, Kq141⟩ := hQ141
  have N141 := Fr.app N126 Nq141
  have C146 := CHr.trans C138 c141
  obtain ⟨a147, T147, h147, k147, X147, e147, E147, hs148, hk149, hZ, hown, c147, lt150, st147⟩ := ldcOH (s := sb.setVm T141.vm) X141 hx hZ hown (wd115 hw) (own_wS hw) rfl ((State.WarmedH.refl (sb.setVm T141.vm)).since 0) (Nat.zero_le _) hEL C146.1 (g := (mkF mi 34 #[.val (.ref g), .val va, .val (.ref m), .val (.ref b), .val (.ref v)] [])) rfl (hb hby dj38_34) (n := 36) (by decide) (by decide) (by decide) (by decide)
  have X147 := own_restand X147
  have hS := hS.trans (⟨hs148.1, hs148.2.mono hk149⟩ : (sb.setVm T141.vm).Since T147.vm h147.size) (Nat.le_trans hk E147.1)
  have hk : h147.size ≤ h147.size := Nat.le_refl _
  have lt151 := Lit.stays (s := sb) lt142 hs148.1
  have lt152 := Lit.stays (s := sb) lt143 hs148.1
  have lt153 := Lit.stays (s := sb) lt144 hs148.1
  have lt154 := Lit.stays (s := sb) lt145 hs148.1
  have lt155 := Lit.stays (s := sb) ll0_141 hs148.1
  have lt156 := Lit.stays (s := sb) ll1_141 hs148.1
  have C157 := CHr.trans C146 c147
  have O158 : Old Z n0 h147 := ((O139.keep Kq141 all0).ext E147)
  have f159 : LStr Z h147 b tb cb := (((((((P7_.ext E102).ext E109).ext E117).keep Kq126 nin0 nin0).ext E131).keep Kq141 nin0 nin0).ext E147)
  have f160 : LStr Z h147 ly0_141 lu0_141 ([(47 : Int32)] : List Int32) := (ls0_141.ext E147)
  have f161 : LStr Z h147 ly1_141 lu1_141 ([(33 : Int32)] : List Int32) := (ls1_141.ext E147)
  obtain ⟨v162, _, ⟨T162, L162, k162, n162⟩, -, X162, s162, gr162, ⟨Lc162, hQ162, l162, y162, z162, c162, -⟩, st162⟩ := callSS X147 hx (y := mn40) hown (mvT hZ (wd69 hw)) (mvT hZ (wd70 hw)) (mvT hZ (wd50 hw)) (mvT hZ (wd71 hw)) (by decide) (own_backSL (W := 0) (LP := fun vm => Lit (Z.setVm vm) c0_ 105 ly0_141 ∧ Lit (Z.setVm vm) c0_ 120 ly1_141) (LQ := fun vm h => True) (fun hW => ⟨Lit.stays (s := sb) lt155 hW, Lit.stays (s := sb) lt156 hW⟩) (rm_segL la Z a0 hw [] a147 b m b tb ly0_141 lu0_141 ly1_141 lu1_141 cb zc h147 n0 O158 f159 f160 f161 D0_ (hne_b : cb.length ≠ 0) (h47_b : ∀ c ∈ cb, ¬ ((c.toInt8.toInt32) = (47 : Int32))) (h33_b : ∀ c ∈ cb, ¬ ((c.toInt8.toInt32) = (33 : Int32))) (hzc : ¬ (zc = (0 : Int32)))) hZ (wd71 hw) (wd50 hw) (by decide) (by decide) hEL C157.1) (g := (mkF mi 39 #[.val (.ref g), .val va, .val (.ref m), .val (.ref b), .val (.ref v)] [(.ref b), (.ref m), (.ref b), (.ref a147)])) rfl (by rw [hml]; rfl) (argsL := [(.ref a147), (.ref b), (.ref m), (.ref b)]) (rest := []) (lenOf pd_27 rfl) rfl (Nat.le_of_ble_eq_true rfl) (hb hby dj38_39) (fun _ _ => ⟨rfl, e147, (by decide : 18 + 0 ≤ _), (by decide : 268 + 0 ≤ _)⟩)
  dsimp only [Pt.U, Pt.locs, Pt.cells, Pt.slots] at X162 s162 gr162 l162 y162 z162 c162 st162 hQ162
  subst l162 y162 z162
  have lt163 := Lit.stays (s := sb) lt151 s162.1
  have lt164 := Lit.stays (s := sb) lt152 s162.1
  have lt165 := Lit.stays (s := sb) lt153 s162.1
  have lt166 := Lit.stays (s := sb) lt154 s162.1
  have lt167 := Lit.stays (s := sb) lt155 s162.1
  have lt168 := Lit.stays (s := sb) lt156 s162.1
  have lt169 := Lit.stays (s := sb) lt150 s162.1
  obtain ⟨X162, hS, hZ, hown⟩ := rebS hS (show _ ≤ T147.heap.size by rw [e147]; exact hk) X162 s162 gr162 hZ hown
  have hk : T162.heap.size ≤ T162.heap.size := Nat.le_refl _
  obtain ⟨rfl, Nq162, Kq162⟩ := hQ162
  have N162 := Fr.app N141 Nq162
  have C170 := CHr.trans C157 c162
  obtain ⟨a171, T171, h171, k171, X171, e171, E171, hs172, hk173, hZ, hown, c171, lt174, st171⟩ := ldcOH (s := sb.setVm T162.vm) X162 hx hZ hown (wd116 hw) (own_wS hw) rfl ((State.WarmedH.refl (sb.setVm T162.vm)).since 0) (Nat.zero_le _) hEL C170.1 (g := (mkF mi 42 #[.val (.ref g), .val va, .val (.ref m), .val (.ref b), .val (.ref v)] [])) rfl (hb hby dj38_42) (n := 36) (by decide) (by decide) (by decide) (by decide)
  have X171 := own_restand X171
  have hS := hS.trans (⟨hs172.1, hs172.2.mono hk173⟩ : (sb.setVm T162.vm).Since T171.vm h171.size) (Nat.le_trans hk E171.1)
  have hk : h171.size ≤ h171.size := Nat.le_refl _
  have lt175 := Lit.stays (s := sb) lt163 hs172.1
  have lt176 := Lit.stays (s := sb) lt164 hs172.1
  have lt177 := Lit.stays (s := sb) lt165 hs172.1
  have lt178 := Lit.stays (s := sb) lt166 hs172.1
  have lt179 := Lit.stays (s := sb) lt167 hs172.1
  have lt180 := Lit.stays (s := sb) lt168 hs172.1
  have lt181 := Lit.stays (s := sb) lt169 hs172.1
  have C182 := CHr.trans C170 c171
  have O183 : Old Z n0 h171 := ((O158.keep Kq162 all0).ext E171)
  have f184 : LStr Z h171 v tv cv := (((((((((P8_.ext E102).ext E109).ext E117).keep Kq126 nin0 nin0).ext E131).keep Kq141 nin0 nin0).ext E147).keep Kq162 nin0 nin0).ext E171)
  have f185 : LStr Z h171 ly0_141 lu0_141 ([(47 : Int32)] : List Int32) := ((f160.keep Kq162 nin0 nin0).ext E171)
  have f186 : LStr Z h171 ly1_141 lu1_141 ([(33 : Int32)] : List Int32) := ((f161.keep Kq162 nin0 nin0).ext E171)
  obtain ⟨v187, _, ⟨T187, L187, k187, n187⟩, -, X187, s187, gr187, ⟨Lc187, hQ187, l187, y187, z187, c187, -⟩, st187⟩ := callSS X171 hx (y := mn40) hown (mvT hZ (wd69 hw)) (mvT hZ (wd70 hw)) (mvT hZ (wd50 hw)) (mvT hZ (wd71 hw)) (by decide) (own_backSL (W := 0) (LP := fun vm => Lit (Z.setVm vm) c0_ 105 ly0_141 ∧ Lit (Z.setVm vm) c0_ 120 ly1_141) (LQ := fun vm h => True) (fun hW => ⟨Lit.stays (s := sb) lt179 hW, Lit.stays (s := sb) lt180 hW⟩) (rm_segL la Z a0 hw [] a171 v m b tv ly0_141 lu0_141 ly1_141 lu1_141 cv zc h171 n0 O183 f184 f185 f186 D0_ (hne_v : cv.length ≠ 0) (h47_v : ∀ c ∈ cv, ¬ ((c.toInt8.toInt32) = (47 : Int32))) (h33_v : ∀ c ∈ cv, ¬ ((c.toInt8.toInt32) = (33 : Int32))) (hzc : ¬ (zc = (0 : Int32)))) hZ (wd71 hw) (wd50 hw) (by decide) (by decide) hEL C182.1) (g := (mkF mi 48 #[.val (.ref g), .val va, .val (.ref m), .val (.ref b), .val (.ref v)] [(.ref b), (.ref m), (.ref v), (.ref a171)])) rfl (by rw [hml]; rfl) (argsL := [(.ref a171), (.ref v), (.ref m), (.ref b)]) (rest := []) (lenOf pd_27 rfl) rfl (Nat.le_of_ble_eq_true rfl) (hb hby dj38_48) (fun _ _ => ⟨rfl, e171, (by decide : 20 + 0 ≤ _), (by decide : 308 + 0 ≤ _)⟩)
  dsimp only [Pt.U, Pt.locs, Pt.cells, Pt.slots] at X187 s187 gr187 l187 y187 z187 c187 st187 hQ187
  subst l187 y187 z187
  have lt188 := Lit.stays (s := sb) lt175 s187.1
  have lt189 := Lit.stays (s := sb) lt176 s187.1
  have lt190 := Lit.stays (s := sb) lt177 s187.1
  have lt191 := Lit.stays (s := sb) lt178 s187.1
  have lt192 := Lit.stays (s := sb) lt179 s187.1
  have lt193 := Lit.stays (s := sb) lt180 s187.1
  have lt194 := Lit.stays (s := sb) lt181 s187.1
  have lt195 := Lit.stays (s := sb) lt174 s187.1
  obtain ⟨X187, hS, hZ, hown⟩ := rebS hS (show _ ≤ T171.heap.size by rw [e171]; exact hk) X187 s187 gr187 hZ hown
  have hk : T187.heap.size ≤ T187.heap.size := Nat.le_refl _
  obtain ⟨rfl, Nq187, Kq187⟩ := hQ187
  have N187 := Fr.app N162 Nq187
  have C196 := CHr.trans C182 c187
  have f197 : Exa Z T187.heap g c0_ := ((((((((((P0_.ext E102).ext E109).ext E117).keep Kq126).ext E131).keep Kq141).ext E147).keep Kq162).ext E171).keep Kq187)
  have f198 : Fld Z T187.heap g c0_ "appName" c4_ .null := ((((((((((P1_.ext E102).ext E109).ext E117).keep Kq126 nin0).ext E131).keep Kq141 nin0).ext E147).keep Kq162 nin0).ext E171).keep Kq187 nin0)
  obtain ⟨T199, h199, X199, e199, W199, st199⟩ := putF X187 hx hZ hown (host := "") (Or.inl (wd117 hw)) Via.refl rfl f198 f197 (Or.inr ⟨(wd118 hw), rfl, hnm⟩) (wd49 hw) (ty := (.object c1_)) (by decide) (own_narX hva) (own_fitX hva) (g := (mkF mi 53 #[.val (.ref g), .val va, .val (.ref m), .val (.ref b), .val (.ref v)] [va, (.ref g)])) rfl rfl (hb hby dj38_53)
  have N199 := Fr.snoc X199 N187 g_g
  have c200 := CHr.keep (Keep.of_wr W199) (sfS (Safe.exa hZ.alike f197 (by decide) (by decide)) sf0) C196.1
  have C201 := CHr.trans C196 c200
  have f202 : Fld Z h199 g c0_ "appName" c4_ va := f198.same W199
  have f203 : Exa Z h199 g c0_ := (f197.keep (Keep.of_wr W199))
  have f204 : Fld Z h199 g c0_ c19_ c4_ .null := (((((((((((P2_.ext E102).ext E109).ext E117).keep Kq126 nin0).ext E131).keep Kq141 nin0).ext E147).keep Kq162 nin0).ext E171).keep Kq187 nin0).other W199 (Or.inr (slot_ne (Or.inr (wd120 hw)) (Or.inr (wd118 hw)) (by decide) (t := (.object c1_)) (t' := (.object c1_)) (by decide) (by decide))))
  obtain ⟨T205, h205, X205, e205, W205, st205⟩ := putF X199 hx hZ hown (host := "") (Or.inl (wd119 hw)) Via.refl e199 f204 f203 (Or.inr ⟨(wd120 hw), rfl, hnm⟩) (wd49 hw) (ty := (.object c1_)) (by decide) rfl rfl (g := (mkF mi 58 #[.val (.ref g), .val va, .val (.ref m), .val (.ref b), .val (.ref v)] [(.ref m), (.ref g)])) rfl rfl (hb hby dj38_58)
  have N205 := Fr.snoc X205 N199 g_g
  have c206 := CHr.keep (Keep.of_wr W205) (sfS (Safe.exa hZ.alike f203 (by decide) (by decide)) sf0) C201.1
  have C207 := CHr.trans C201 c206
  have f208 : Fld Z h205 g c0_ c19_ c4_ (.ref m) := f204.same W205
  have f209 : Exa Z h205 g c0_ := (f203.keep (Keep.of_wr W205))
  have f210 : Fld Z h205 g c0_ "beanName" c4_ .null := ((((((((((((P3_.ext E102).ext E109).ext E117).keep Kq126 nin0).ext E131).keep Kq141 nin0).ext E147).keep Kq162 nin0).ext E171).keep Kq187 nin0).other W199 (Or.inr (slot_ne (Or.inr (wd122 hw)) (Or.inr (wd118 hw)) (by decide) (t := (.object c1_)) (t' := (.object c1_)) (by decide) (by decide)))).other W205 (Or.inr (slot_ne (Or.inr (wd122 hw)) (Or.inr (wd120 hw)) (by decide) (t := (.object c1_)) (t' := (.object c1_)) (by decide) (by decide))))
  obtain ⟨T211, h211, X211, e211, W211, st211⟩ := putF X205 hx hZ hown (host := "") (Or.inl (wd121 hw)) Via.refl e205 f210 f209 (Or.inr ⟨(wd122 hw), rfl, hnm⟩) (wd49 hw) (ty := (.object c1_)) (by decide) rfl rfl (g := (mkF mi 63 #[.val (.ref g), .val va, .val (.ref m), .val (.ref b), .val (.ref v)] [(.ref b), (.ref g)])) rfl rfl (hb hby dj38_63)
  have N211 := Fr.snoc X211 N205 g_g
  have c212 := CHr.keep (Keep.of_wr W211) (sfS (Safe.exa hZ.alike f209 (by decide) (by decide)) sf0) C207.1
  have C213 := CHr.trans C207 c212
  have f214 : Fld Z h211 g c0_ "beanName" c4_ (.ref b) := f210.same W211
  have f215 : Exa Z h211 g c0_ := (f209.keep (Keep.of_wr W211))
  have f216 : Fld Z h211 g c0_ "viewName" c4_ .null := (((((((((((((P4_.ext E102).ext E109).ext E117).keep Kq126 nin0).ext E131).keep Kq141 nin0).ext E147).keep Kq162 nin0).ext E171).keep Kq187 nin0).other W199 (Or.inr (slot_ne (Or.inr (wd124 hw)) (Or.inr (wd118 hw)) (by decide) (t := (.object c1_)) (t' := (.object c1_)) (by decide) (by decide)))).other W205 (Or.inr (slot_ne (Or.inr (wd124 hw)) (Or.inr (wd120 hw)) (by decide) (t := (.object c1_)) (t' := (.object c1_)) (by decide) (by decide)))).other W211 (Or.inr (slot_ne (Or.inr (wd124 hw)) (Or.inr (wd122 hw)) (by decide) (t := (.object c1_)) (t' := (.object c1_)) (by decide) (by decide))))
  obtain ⟨T217, h217, X217, e217, W217, st217⟩ := putF X211 hx hZ hown (host := "") (Or.inl (wd123 hw)) Via.refl e211 f216 f215 (Or.inr ⟨(wd124 hw), rfl, hnm⟩) (wd49 hw) (ty := (.object c1_)) (by decide) rfl rfl (g := (mkF mi 69 #[.val (.ref g), .val va, .val (.ref m), .val (.ref b), .val (.ref v)] [(.ref v), (.ref g)])) rfl rfl (hb hby dj38_69)
  have N217 := Fr.snoc X217 N211 g_g
  have c218 := CHr.keep (Keep.of_wr W217) (sfS (Safe.exa hZ.alike f215 (by decide) (by decide)) sf0) C213.1
  have C219 := CHr.trans C213 c218
  have f220 : Fld Z h217 g c0_ "viewName" c4_ (.ref v) := f216.same W217
  have f221 : Exa Z h217 g c0_ := (f215.keep (Keep.of_wr W217))
  have f222 : Fld Z h217 g c0_ c19_ c4_ (.ref m) := ((f208.other W211 (Or.inr (slot_ne (Or.inr (wd120 hw)) (Or.inr (wd122 hw)) (by decide) (t := (.object c1_)) (t' := (.object c1_)) (by decide) (by decide)))).other W217 (Or.inr (slot_ne (Or.inr (wd120 hw)) (Or.inr (wd124 hw)) (by decide) (t := (.object c1_)) (t' := (.object c1_)) (by decide) (by decide))))
  have f223 : Fld Z h217 g c0_ "beanName" c4_ (.ref b) := (f214.other W217 (Or.inr (slot_ne (Or.inr (wd122 hw)) (Or.inr (wd124 hw)) (by decide) (t := (.object c1_)) (t' := (.object c1_)) (by decide) (by decide))))
  obtain ⟨fs, hr, hrun, hended, hWe⟩ := X217.leaveW hS (show _ ≤ T217.heap.size by rw [e217]; exact (Nat.le_trans hk (Nat.le_trans (Nat.le_trans (Nat.le_trans (Keep.of_wr W199).1 (Keep.of_wr W205).1) (Keep.of_wr W211).1) (Keep.of_wr W217).1))) (v := none) (fun _ => rfl)
  refine ⟨_, _, pre0 _ ?_, hrun, hended, _, _, rfl, ?_, ?_, hWe.1, hWe.2.1, hWe.2.2.1, hWe.2.2.2.mono (by decide) (by decide)⟩
  · show SP pg ev below (s₁.setTop (mkF mi 0 #[.val (.ref g), .val va, .val (.ref m), .val (.ref b), .val (.ref v)] [])) _
    refine XS.aloadN X0.here hx rfl (hb hby dj38_0) rfl rfl ?_
    refine st101.trans ?_
    refine XS.aloadN X101.here hx rfl (hb hby dj38_4) rfl rfl ?_
    refine st102 _ ?_
    refine st108 _ ?_
    refine XS.pop X108.here hx rfl (hb hby dj38_10) rfl rfl ?_
    refine XS.aloadN X108.here hx rfl (hb hby dj38_11) rfl rfl ?_
    refine st109 _ ?_
    refine st116 _ ?_
    refine XS.pop X116.here hx rfl (hb hby dj38_17) rfl rfl ?_
    refine st117 _ ?_
    refine XS.aloadN X117.here hx rfl (hb hby dj38_20) rfl hva ?_
    refine XS.aloadN X117.here hx rfl (hb hby dj38_21) rfl rfl ?_
    refine XS.aloadN X117.here hx rfl (hb hby dj38_22) rfl rfl ?_
    refine st126.trans ?_
    refine st131 _ ?_
    refine XS.aloadN X131.here hx rfl (hb hby dj38_28) rfl rfl ?_
    refine XS.aloadN X131.here hx rfl (hb hby dj38_29) rfl rfl ?_
    refine XS.aloadN X131.here hx rfl (hb hby dj38_30) rfl rfl ?_
    refine st141.trans ?_
    refine st147 _ ?_
    refine XS.aloadN X147.here hx rfl (hb hby dj38_36) rfl rfl ?_
    refine XS.aloadN X147.here hx rfl (hb hby dj38_37) rfl rfl ?_
    refine XS.aloadN X147.here hx rfl (hb hby dj38_38) rfl rfl ?_
    refine st162.trans ?_
    refine st171 _ ?_
    refine XS.aload X171.here hx rfl (hb hby dj38_44) rfl rfl ?_
    refine XS.aloadN X171.here hx rfl (hb hby dj38_46) rfl rfl ?_
    refine XS.aloadN X171.here hx rfl (hb hby dj38_47) rfl rfl ?_
    refine st187.trans ?_
    refine XS.aloadN X187.here hx rfl (hb hby dj38_51) rfl rfl ?_
    refine XS.aloadN X187.here hx rfl (hb hby dj38_52) rfl hva ?_
    refine st199 _ ?_
    refine XS.aloadN X199.here hx rfl (hb hby dj38_56) rfl rfl ?_
    refine XS.aloadN X199.here hx rfl (hb hby dj38_57) rfl rfl ?_
    refine st205 _ ?_
    refine XS.aloadN X205.here hx rfl (hb hby dj38_61) rfl rfl ?_
    refine XS.aloadN X205.here hx rfl (hb hby dj38_62) rfl rfl ?_
    refine st211 _ ?_
    refine XS.aloadN X211.here hx rfl (hb hby dj38_66) rfl rfl ?_
    show SP pg ev below (T211.setTop (mkF mi 67 #[.val (.ref g), .val va, .val (.ref m), .val (.ref b), .val (.ref v)] [(.ref g)])) _
    refine XS.aload X211.here hx rfl (hb hby dj38_67) rfl rfl ?_
    refine st217 _ ?_
    show SP pg ev below (T217.setTop (mkF mi 72 #[.val (.ref g), .val va, .val (.ref m), .val (.ref b), .val (.ref v)] [])) _
    exact X217.returnOut hx Bd.returns (hb hby dj38_72) hr
  · show Q_gin1 Z g va ca m tm cm b tb cb v tv cv zc hE n0 _ T217.heap _
    rw [e217]
    exact ⟨rfl, N217, (((((((((((((((Keep.refl hE [g]).ext E102).ext E109).ext E117).trans Kq126 all0).ext E131).trans Kq141 all0).ext E147).trans Kq162 all0).ext E171).trans Kq187 all0).trans (Keep.of_wr W199) (allS (Or.inl (List.mem_of_getElem? (i := 0) rfl)) all0)).trans (Keep.of_wr W205) (allS (Or.inl (List.mem_of_getElem? (i := 0) rfl)) all0)).trans (Keep.of_wr W211) (allS (Or.inl (List.mem_of_getElem? (i := 0) rfl)) all0)).trans (Keep.of_wr W217) (allS (Or.inl (List.mem_of_getElem? (i := 0) rfl)) all0)), f221, f222, f223, f220⟩
  · show CHr Z ELs sb.vm sb.heap T217.vm T217.heap
    rw [hh, e217]
    exact CHr.trans C219 (CHv.at X217 hZ hEL C219.1)
theorem dj39_0 : decode jc39 0 = .ok (.aload_n 0, 1) := by decide +kernel
theorem dj39_1 : decode jc39 1 = .ok (.getfield 39, 3) := by decide +kernel
theorem dj39_4 : decode jc39 4 = .ok (.ifnonnull 8, 3) := by decide +kernel
theorem dj39_7 : decode jc39 7 = .ok (.ldc 118, 2) := by decide +kernel
theorem dj39_9 : decode jc39 9 = .ok (.goto 25, 3) := by decide +kernel
theorem dj39_34 : decode jc39 34 = .ok (.areturn, 1) := by decide +kernel
theorem ef_vs0 (mi : MethodId) (g : Addr) : entryFrame mi #[(.ref g)] 1 = mkF mi 0 #[.val (.ref g)] [] := rfl
def Q_vs0 (Z : State) (g : Addr) (hE : Heap) (n0 : Nat) (vv : Option Value) (hh : Heap) (LL : List Loc) : Prop := ∃ x : Addr, ∃ t : Addr, (vv = some (.ref x)) ∧ (Fr n0 LL) ∧ (Keep hE hh []) ∧ (LStr Z hh x t ([] : List Int32))
theorem rm_vs0 (hw : HW a0 Z) (ws : List Cond) (g : Addr) (hE : Heap) (n0 : Nat) (O : Old Z n0 hE) (P0_ : Fld Z hE g c0_ "viewName" c4_ .null) :
    MW la Z hE mn42 jc39 1 (some (.object c1_)) ws (rr 0 2 4 0) #[(.ref g)] (Q_vs0 Z g hE n0) := by
  refine MetFree.of_bodySF (plainFor_of_name pn_com_example_beanloft_beanloft_naming_GlobalName) hisR ?_
  intro pg ev sb mi gs below me cd s₁ Bd hml0 hPt hKt
  obtain ⟨rfl, hZ, hh, hH⟩ := hPt
  have hx := Bd.exec
  have hby := Bd.bytes
  have hml : cd.maxLocals = 1 := hml0
  have hown : sb.vm.findClass c0_ = some mi.cls := findClass_of_methodNamed Bd.named
  have X0 : Stand pg la ev (rr 0 2 4 0) (sb.setVm sb.vm) mi #[(.ref g)] below me cd s₁ [] 0 0 := Stand.of_body Bd
  have eE : s₁.heap = hE := by rw [← hh, Bd.state]; rfl
  have N0 := Fr.nil n0
  have pre0 : ∀ tt, SP pg ev below (s₁.setTop (mkF mi 0 #[.val (.ref g)] [])) tt → SP pg ev below (s₁.setTop (entryFrame mi #[(.ref g)] 1)) tt := fun tt kk => castTop (ef_vs0 mi g) kk
  have hS : sb.Since sb.vm 0 := (State.WarmedH.refl sb).since 0
  have hk : 0 ≤ hE.size := Nat.zero_le _
  have hEL := own_EW hw
  have C0 := CHr.refl hH
  obtain ⟨T101, X101, e101, st101⟩ := getF X0 hx hZ hown (host := "") (Or.inl (wd123 hw)) Via.refl eE P0_ (g := (mkF mi 1 #[.val (.ref g)] [(.ref g)])) rfl rfl (hb hby dj39_1)
  obtain ⟨a102, T102, h102, k102, d102, kc102, X102, e102, E102, hS, hk, hZ, hown, lE102, lC102, lV102, lA102, -, -, c102, -, hne102, st102⟩ := ldcCH X101 hx hZ hown (wd195 hw) (own_wS hw) e101 hS hk hEL (by decide +kernel) C0.1 (vs := ([] : List Int32).map fun c => Value.int c.toInt8.toInt32) (z := Int32.ofNat ([] : List Int32).length) (by decide +kernel) (by decide) (by decide) (g := (mkF mi 7 #[.val (.ref g)] [])) rfl (hb hby dj39_7) (n := 0) (by decide) (by decide) (by decide) (by decide)
  have C103 := CHr.trans C0 c102
  have s104 : LStr Z h102 a102 d102 ([] : List Int32) := ⟨lE102, lV102, lC102, ⟨_, lA102⟩, (by decide), (by decide)⟩
  obtain ⟨fs, hr, hrun, hended, hWe⟩ := X102.leaveW hS (show _ ≤ T102.heap.size by rw [e102]; exact hk) (v := some (.ref a102)) (fun hq => by rw [Bd.returns] at hq; cases hq)
  refine ⟨_, _, pre0 _ ?_, hrun, hended, _, _, rfl, ?_, ?_, hWe.1, hWe.2.1, hWe.2.2.1, hWe.2.2.2.mono (by decide) (by decide)⟩
  · show SP pg ev below (s₁.setTop (mkF mi 0 #[.val (.ref g)] [])) _
    refine XS.aloadN X0.here hx rfl (hb hby dj39_0) rfl rfl ?_
    refine st101 _ ?_
    refine XS.ifnonnullNo X101.here hx rfl (hb hby dj39_4) rfl ?_
    refine st102 _ ?_
    refine XS.goto X102.here hx rfl (pc0 := 9) (pc' := 34) rfl (hb hby dj39_9) (by decide) (by decide) ?_
    show SP pg ev below (T102.setTop (mkF mi 34 #[.val (.ref g)] [(.ref a102)])) _
    jvm_step X102.here [X102.here.top, hx, (hb hby dj39_34), X102.method', Bd.returns, Value.isRef, FieldType.isReference]
    first | (intro acts; rw [hr _ acts rfl rfl rfl]) | rw [hr _ _ rfl rfl rfl]
    exact Steps.refl _
  · show Q_vs0 Z g hE n0 _ T102.heap _
    rw [e102]
    exact ⟨a102, d102, rfl, N0, ((Keep.refl hE []).ext E102), s104⟩
  · show CHr Z ELs sb.vm sb.heap T102.vm T102.heap
    rw [hh, e102]
    exact CHr.trans C103 (CHv.at X102 hZ hEL C103.1)
theorem dj39_12 : decode jc39 12 = .ok (.new 70, 3) := by decide +kernel
theorem dj39_15 : decode jc39 15 = .ok (.dup, 1) := by decide +kernel
theorem dj39_16 : decode jc39 16 = .ok (.invokespecial 72, 3) := by decide +kernel
theorem dj39_19 : decode jc39 19 = .ok (.ldc 120, 2) := by decide +kernel
theorem dj39_21 : decode jc39 21 = .ok (.invokevirtual 75, 3) := by decide +kernel
theorem dj39_24 : decode jc39 24 = .ok (.aload_n 0, 1) := by decide +kernel
theorem dj39_25 : decode jc39 25 = .ok (.getfield 39, 3) := by decide +kernel
theorem dj39_28 : decode jc39 28 = .ok (.invokevirtual 75, 3) := by decide +kernel
theorem dj39_31 : decode jc39 31 = .ok (.invokevirtual 84, 3) := by decide +kernel
theorem pd_28 : parseMethodDescriptor "(Ljava/lang/String;)Ljava/lang/StringBuilder;" = some ⟨[(.object "java/lang/String")], some (.object "java/lang/StringBuilder")⟩ := by decide +kernel
theorem ef_vs1 (mi : MethodId) (g : Addr) : entryFrame mi #[(.ref g)] 1 = mkF mi 0 #[.val (.ref g)] [] := rfl
def Q_vs1 (Z : State) (g v tv : Addr) (cv : List Int32) (zc : Int32) (hE : Heap) (n0 : Nat) (vv : Option Value) (hh : Heap) (LL : List Loc) : Prop := ∃ x : Addr, ∃ t : Addr, (vv = some (.ref x)) ∧ (Fr n0 LL) ∧ (Keep hE hh []) ∧ (hE.size ≤ x) ∧ (hE.size ≤ t) ∧ (LStr Z hh x t ((([] : List Int32) ++ ([(33 : Int32)] : List Int32)) ++ cv))
theorem rm_vs1 (hw : HW a0 Z) (ws : List Cond) (g v tv : Addr) (cv : List Int32) (zc : Int32) (hE : Heap) (n0 : Nat) (O : Old Z n0 hE) (P0_ : Fld Z hE g c0_ "viewName" c4_ (.ref v)) (P1_ : LStr Z hE v tv cv) (D0_ : Sta Z Z.heap c1_ c6_ "Z" (.int zc)) (hlv : cv.length = 2) (hzc : ¬ (zc = (0 : Int32))) :
    MW la Z hE mn42 jc39 1 (some (.object c1_)) ws (rr 6 6 152 91) #[(.ref g)] (Q_vs1 Z g v tv cv zc hE n0) := by
  refine MetFree.of_bodySF (plainFor_of_name pn_com_example_beanloft_beanloft_naming_GlobalName) hisR ?_
  intro pg ev sb mi gs below me cd s₁ Bd hml0 hPt hKt
  obtain ⟨rfl, hZ, hh, hH⟩ := hPt
  have hx := Bd.exec
  have hby := Bd.bytes
  have hml : cd.maxLocals = 1 := hml0
  have hown : sb.vm.findClass c0_ = some mi.cls := findClass_of_methodNamed Bd.named
  have X0 : Stand pg la ev (rr 6 6 152 91) (sb.setVm sb.vm) mi #[(.ref g)] below me cd s₁ [] 0 0 := Stand.of_body Bd
  have eE : s₁.heap = hE := by rw [← hh, Bd.state]; rfl
  have N0 := Fr.nil n0
  have pre0 : ∀ tt, SP pg ev below (s₁.setTop (mkF mi 0 #[.val (.ref g)] [])) tt → SP pg ev below (s₁.setTop (entryFrame mi #[(.ref g)] 1)) tt := fun tt kk => castTop (ef_vs1 mi g) kk
  have hS : sb.Since sb.vm 0 := (State.WarmedH.refl sb).since 0
  have hk : 0 ≤ hE.size := Nat.zero_le _
  have hEL := own_EW hw
  have C0 := CHr.refl hH
  obtain ⟨T101, X101, e101, st101⟩ := getF X0 hx hZ hown (host := "") (Or.inl (wd123 hw)) Via.refl eE P0_ (g := (mkF mi 1 #[.val (.ref g)] [(.ref g)])) rfl rfl (hb hby dj39_1)
  obtain ⟨T102, h102, X102, e102, E102, A102, D102, -, st102⟩ := newO X101 hx hZ hown (wd130 hw) (wd131 hw) (wd132 hw) e101 (g := (mkF mi 12 #[.val (.ref g)] [])) rfl (hb hby dj39_12) (by decide) (by decide)
  obtain ⟨b102, q102⟩ : ∃ z, z = hE.size := ⟨_, rfl⟩
  rw [← q102] at A102 D102 st102
  have c103 := CHr.ext E102 C0.1
  have C104 := CHr.trans C0 c103
  have f105 : Fld Z h102 b102 c2_ "value" "[B" .null := D102 (Or.inl (wd145 hw)) (ty := (.array .byte)) (by decide)
  have f106 : Fld Z h102 b102 c2_ "coder" "B" (.int 0) := D102 (Or.inl (wd147 hw)) (ty := .byte) (by decide)
  have f107 : Fld Z h102 b102 c2_ "count" "I" (.int 0) := D102 (Or.inl (wd165 hw)) (ty := .int) (by decide)
  have O108 : Old Z n0 h102 := (O.ext E102)
  have g_b102 : n0 ≤ b102 := Nat.le_trans (Nat.le_trans (Nat.le_of_eq O.1.symm) O.2.1) (Nat.le_of_eq q102.symm)
  obtain ⟨v109, _, ⟨T109, L109, k109, n109⟩, -, X109, ⟨Lc109, hQ109, l109, y109, z109⟩, st109⟩ := X102.specialBack hx (y := mn3) rfl hown (mvT hZ (wd133 hw)) (mvT hZ (wd134 hw)) (mvT hZ (wd135 hw)) (by decide) (backOf (W := 1) (rm_sbin la Z a0 hw [] b102 zc h102 n0 O108 A102 f105 f106 f107 D0_ g_b102 (hzc : ¬ (zc = (0 : Int32)))) hZ (wd135 hw) (wd132 hw) (by decide) (by decide)) (g := (mkF mi 16 #[.val (.ref g)] [(.ref b102), (.ref b102)])) rfl (by rw [hml]; rfl) (Steps.refl _) (a := b102) (argsL := []) (rest := [(.ref b102)]) (lenOf pd_25 rfl) rfl (Nat.le_of_ble_eq_true rfl) (hb hby dj39_16) (fun _ _ => ⟨rfl, e102, (by decide : 1 + 1 ≤ _), (by decide : 4 + 16 ≤ _)⟩)
  dsimp only [Pt.U, Pt.locs, Pt.cells, Pt.slots] at X109 l109 y109 z109 st109 hQ109
  subst l109 y109 z109
  obtain ⟨t_109, rfl, Nq109, Kq109, fr_t_109, r109_0⟩ := hQ109
  have N109 := Fr.app N0 Nq109
  have c110 := CHr.keep Kq109 (sfS (Safe.exa hZ.alike A102 (by decide) (by decide)) sf0) C104.1
  have C111 := CHr.trans C104 c110
  have sf112 : Safe Z ELs _ T109.heap t_109 := (Safe.keep Kq109 (sfS (Safe.exa hZ.alike A102 (by decide) (by decide)) sf0) C104.1 (Safe.new fr_t_109))
  obtain ⟨a113, T113, h113, k113, d113, kc113, X113, e113, E113, hS, hk, hZ, hown, lE113, lC113, lV113, lA113, -, -, c113, -, hne113, st113⟩ := ldcCH X109 hx hZ hown (wd114 hw) (own_wS hw) rfl hS (Nat.le_trans hk (Nat.le_trans E102.1 Kq109.1)) hEL (by decide +kernel) C111.1 (vs := ([(33 : Int32)] : List Int32).map fun c => Value.int c.toInt8.toInt32) (z := Int32.ofNat ([(33 : Int32)] : List Int32).length) (by decide +kernel) (by decide) (by decide) (g := (mkF mi 19 #[.val (.ref g)] [(.ref b102)])) rfl (hb hby dj39_19) (n := 4) (by decide) (by decide) (by decide) (by decide)
  have C114 := CHr.trans C111 c113
  have sf117 : Safe Z ELs _ h113 t_109 := (c113.safe r109_0.ltt sf112)
  have nl116 := hne113 t_109 sf117
  have s115 : LStr Z h113 a113 d113 ([(33 : Int32)] : List Int32) := ⟨lE113, lV113, lC113, ⟨_, lA113⟩, (by decide), (by decide)⟩
  have O118 : Old Z n0 h113 := ((O108.keep Kq109 (allS g_b102 all0)).ext E113)
  have f119 : SBl Z h113 b102 t_109 16 ([] : List Int32) := (r109_0.ext E113)
  have g_t_109 : n0 ≤ t_109 := Nat.le_trans (Nat.le_trans (Nat.le_of_eq O108.1.symm) O108.2.1) fr_t_109
  have ne_b102_t_109 : b102 ≠ t_109 := Nat.ne_of_lt (Nat.lt_of_lt_of_le A102.lt (Nat.le_trans (Nat.le_refl _) fr_t_109))
  have f120 : Exa Z h113 b102 c3_ := ((A102.keep Kq109).ext E113)
  have ne_a113_b102 : a113 ≠ b102 := ne_exa lE113 f120 (by decide)
  have ne_b102_d113 : b102 ≠ d113 := Exa.neArv f120 lA113 (wd131 hw)
  obtain ⟨cq121, kq121, q121a, q121b, q121c⟩ := isOf hZ e113 f120
  obtain ⟨v121, _, ⟨T121, L121, k121, n121⟩, -, X121, ⟨Lc121, hQ121, l121, y121, z121⟩, st121⟩ := X113.virtualBack hx (y := mn14) (z := mn14) hown (mvT hZ (wd149 hw)) (mvT hZ (wd150 hw)) (notFace_of_selects (args := #[]) (mvT hZ (wd152 hw))) (mvT hZ (wd152 hw)) (mvT hZ (wd151 hw)) (by decide) (backOf (W := 0) (rm_sap_fit la Z a0 hw [] b102 a113 t_109 d113 16 ([] : List Int32) ([(33 : Int32)] : List Int32) zc h113 n0 O118 f119 s115 D0_ g_b102 g_t_109 ne_b102_t_109 ne_a113_b102 (Ne.symm ne_b102_d113) (by first | assumption | exact Nat.le_of_ble_eq_true rfl | rfl | decide | omega : ([] : List Int32).length + ([(33 : Int32)] : List Int32).length ≤ 16) (hzc : ¬ (zc = (0 : Int32)))) hZ (wd153 hw) (wd132 hw) (by decide) (by decide)) q121a q121c (g := (mkF mi 21 #[.val (.ref g)] [(.ref a113), (.ref b102)])) rfl (by rw [hml]; rfl) (Steps.refl _) (argsL := [(.ref a113)]) (rest := []) (lenOf pd_28 rfl) rfl (Nat.le_of_ble_eq_true rfl) (hb hby dj39_21) (fun _ _ => ⟨rfl, e113, (by decide : 4 + 0 ≤ _), (by decide : 28 + 0 ≤ _)⟩)
  dsimp only [Pt.U, Pt.locs, Pt.cells, Pt.slots] at X121 l121 y121 z121 st121 hQ121
  subst l121 y121 z121
  obtain ⟨rfl, Nq121, Kq121, r121_0⟩ := hQ121
  have N121 := Fr.app N109 Nq121
  have c122 := CHr.keep Kq121 (sfS (Safe.exa hZ.alike f120 (by decide) (by decide)) (sfS sf117 sf0)) C114.1
  have C123 := CHr.trans C114 c122
  have ne_g_b102 : g ≠ b102 := Nat.ne_of_lt (Nat.lt_of_lt_of_le P0_.lt (Nat.le_trans (Nat.le_refl _) (Nat.le_of_eq q102.symm)))
  have ne_g_t_109 : g ≠ t_109 := Nat.ne_of_lt (Nat.lt_of_lt_of_le P0_.lt (Nat.le_trans E102.1 fr_t_109))
  have f124 : Fld Z T121.heap g c0_ "viewName" c4_ (.ref v) := ((((P0_.ext E102).keep Kq109 (ninS ne_g_b102 nin0)).ext E113).keep Kq121 (ninS ne_g_b102 (ninS ne_g_t_109 nin0)))
  obtain ⟨T125, X125, e125, st125⟩ := getF X121 hx hZ hown (host := "") (Or.inl (wd123 hw)) Via.refl rfl f124 (g := (mkF mi 25 #[.val (.ref g)] [(.ref g), (.ref b102)])) rfl rfl (hb hby dj39_25)
  have O126 : Old Z n0 T121.heap := (O118.keep Kq121 (allS g_b102 (allS g_t_109 all0)))
  have ne_v_b102 : v ≠ b102 := Nat.ne_of_lt (Nat.lt_of_lt_of_le P1_.lt (Nat.le_trans (Nat.le_refl _) (Nat.le_of_eq q102.symm)))
  have ne_tv_b102 : tv ≠ b102 := Nat.ne_of_lt (Nat.lt_of_lt_of_le P1_.ltt (Nat.le_trans (Nat.le_refl _) (Nat.le_of_eq q102.symm)))
  have ne_v_t_109 : v ≠ t_109 := Nat.ne_of_lt (Nat.lt_of_lt_of_le P1_.lt (Nat.le_trans E102.1 fr_t_109))
  have ne_tv_t_109 : tv ≠ t_109 := Nat.ne_of_lt (Nat.lt_of_lt_of_le P1_.ltt (Nat.le_trans E102.1 fr_t_109))
  have f127 : LStr Z T121.heap v tv cv := ((((P1_.ext E102).keep Kq109 (ninS ne_v_b102 nin0) (ninS ne_tv_b102 nin0)).ext E113).keep Kq121 (ninS ne_v_b102 (ninS ne_v_t_109 nin0)) (ninS ne_tv_b102 (ninS ne_tv_t_109 nin0)))
  have f129 : Exa Z T121.heap b102 c3_ := (f120.keep Kq121)
  obtain ⟨cq128, kq128, q128a, q128b, q128c⟩ := isOf hZ e125 f129
  obtain ⟨v128, _, ⟨T128, L128, k128, n128⟩, -, X128, ⟨Lc128, hQ128, l128, y128, z128⟩, st128⟩ := X125.virtualBack hx (y := mn14) (z := mn14) hown (mvT hZ (wd149 hw)) (mvT hZ (wd150 hw)) (notFace_of_selects (args := #[]) (mvT hZ (wd152 hw))) (mvT hZ (wd152 hw)) (mvT hZ (wd151 hw)) (by decide) (backOf (W := 0) (rm_sap_fit la Z a0 hw [] b102 v t_109 tv 16 (([] : List Int32) ++ ([(33 : Int32)] : List Int32)) cv zc T121.heap n0 O126 r121_0 f127 D0_ g_b102 g_t_109 ne_b102_t_109 ne_v_b102 ne_tv_b102 ((by simp only [List.length_append, List.length_cons, List.length_nil]; omega) : (([] : List Int32) ++ ([(33 : Int32)] : List Int32)).length + cv.length ≤ 16) (hzc : ¬ (zc = (0 : Int32)))) hZ (wd153 hw) (wd132 hw) (by decide) (by decide)) q128a q128c (g := (mkF mi 28 #[.val (.ref g)] [(.ref v), (.ref b102)])) rfl (by rw [hml]; rfl) (Steps.refl _) (argsL := [(.ref v)]) (rest := []) (lenOf pd_28 rfl) rfl (Nat.le_of_ble_eq_true rfl) (hb hby dj39_28) (fun _ _ => ⟨rfl, e125, (by decide : 4 + 0 ≤ _), (by decide : 28 + 0 ≤ _)⟩)
  dsimp only [Pt.U, Pt.locs, Pt.cells, Pt.slots] at X128 l128 y128 z128 st128 hQ128
  subst l128 y128 z128
  obtain ⟨rfl, Nq128, Kq128, r128_0⟩ := hQ128
  have N128 := Fr.app N121 Nq128
  have sf131 : Safe Z ELs _ T121.heap t_109 := (c122.safe (Nat.lt_of_lt_of_le r109_0.ltt E113.1) sf117)
  have c130 := CHr.keep Kq128 (sfS (Safe.exa hZ.alike f129 (by decide) (by decide)) (sfS sf131 sf0)) C123.1
  have C132 := CHr.trans C123 c130
  have O133 : Old Z n0 T128.heap := (O126.keep Kq128 (allS g_b102 (allS g_t_109 all0)))
  have f135 : Exa Z T128.heap b102 c3_ := (f129.keep Kq128)
  obtain ⟨cq134, kq134, q134a, q134b, q134c⟩ := isOf hZ rfl f135
  obtain ⟨v134, _, ⟨T134, L134, k134, n134⟩, -, X134, ⟨Lc134, hQ134, l134, y134, z134⟩, st134⟩ := X128.virtualBack hx (y := mn24) (z := mn24) hown (mvT hZ (wd196 hw)) (mvT hZ (wd197 hw)) (notFace_of_selects (args := #[]) (mvT hZ (wd199 hw))) (mvT hZ (wd199 hw)) (mvT hZ (wd198 hw)) (by decide) (backOf (W := 0) (rm_sbt_cut la Z a0 hw [] b102 t_109 16 ((([] : List Int32) ++ ([(33 : Int32)] : List Int32)) ++ cv) zc T128.heap n0 O133 r128_0 D0_ ((by simp only [List.length_append, List.length_cons, List.length_nil]; omega) : ((([] : List Int32) ++ ([(33 : Int32)] : List Int32)) ++ cv).length < 16) (hzc : ¬ (zc = (0 : Int32)))) hZ (wd200 hw) (wd132 hw) (by decide) (by decide)) q134a q134c (g := (mkF mi 31 #[.val (.ref g)] [(.ref b102)])) rfl (by rw [hml]; rfl) (Steps.refl _) (argsL := []) (rest := []) (lenOf pd_22 rfl) rfl (Nat.le_of_ble_eq_true rfl) (hb hby dj39_31) (fun _ _ => ⟨rfl, rfl, (by decide : 4 + 2 ≤ _), (by decide : 28 + 124 ≤ _)⟩)
  dsimp only [Pt.U, Pt.locs, Pt.cells, Pt.slots] at X134 l134 y134 z134 st134 hQ134
  subst l134 y134 z134
  obtain ⟨x_134, r_134, rfl, Nq134, Kq134, fr_x_134, fr_r_134, r134_0⟩ := hQ134
  have N134 := Fr.app N128 Nq134
  have c136 := CHr.keep Kq134 sf0 C132.1
  have C137 := CHr.trans C132 c136
  obtain ⟨fs, hr, hrun, hended, hWe⟩ := X134.leaveW hS (show _ ≤ T134.heap.size from (Nat.le_trans hk (Nat.le_trans (Nat.le_trans Kq121.1 Kq128.1) Kq134.1))) (v := some (.ref x_134)) (fun hq => by rw [Bd.returns] at hq; cases hq)
  refine ⟨_, _, pre0 _ ?_, hrun, hended, _, _, rfl, ?_, ?_, hWe.1, hWe.2.1, hWe.2.2.1, hWe.2.2.2.mono (by decide) (by decide)⟩
  · show SP pg ev below (s₁.setTop (mkF mi 0 #[.val (.ref g)] [])) _
    refine XS.aloadN X0.here hx rfl (hb hby dj39_0) rfl rfl ?_
    refine st101 _ ?_
    refine XS.ifnonnullYes X101.here hx rfl (pc0 := 4) (pc' := 12) rfl (hb hby dj39_4) rfl (by decide) (by decide) ?_
    refine st102 _ ?_
    refine XS.dup X102.here hx rfl (hb hby dj39_15) rfl rfl ?_
    refine st109.trans ?_
    refine st113 _ ?_
    refine st121.trans ?_
    refine XS.aloadN X121.here hx rfl (hb hby dj39_24) rfl rfl ?_
    refine st125 _ ?_
    refine st128.trans ?_
    refine st134.trans ?_
    show SP pg ev below (T134.setTop (mkF mi 34 #[.val (.ref g)] [(.ref x_134)])) _
    jvm_step X134.here [X134.here.top, hx, (hb hby dj39_34), X134.method', Bd.returns, Value.isRef, FieldType.isReference]
    first | (intro acts; rw [hr _ acts rfl rfl rfl]) | rw [hr _ _ rfl rfl rfl]
    exact Steps.refl _
  · show Q_vs1 Z g v tv cv zc hE n0 _ T134.heap _
    exact ⟨x_134, r_134, rfl, N134, (((((((Keep.refl hE []).ext E102).trans Kq109 (allS (Or.inr (Nat.le_of_eq q102.symm)) all0)).ext E113).trans Kq121 (allS (Or.inr (Nat.le_of_eq q102.symm)) (allS (Or.inr (Nat.le_trans E102.1 fr_t_109)) all0))).trans Kq128 (allS (Or.inr (Nat.le_of_eq q102.symm)) (allS (Or.inr (Nat.le_trans E102.1 fr_t_109)) all0))).trans Kq134 all0), (Nat.le_trans (Nat.le_trans (Nat.le_trans (Nat.le_trans (Nat.le_trans E102.1 Kq109.1) E113.1) Kq121.1) Kq128.1) fr_x_134), (Nat.le_trans (Nat.le_trans (Nat.le_trans (Nat.le_trans (Nat.le_trans E102.1 Kq109.1) E113.1) Kq121.1) Kq128.1) fr_r_134), r134_0⟩
  · show CHr Z ELs sb.vm sb.heap T134.vm T134.heap
    rw [hh]
    exact CHr.trans C137 (CHv.at X134 hZ hEL C137.1)
theorem dj40_0 : decode jc40 0 = .ok (.new 70, 3) := by decide +kernel
theorem dj40_3 : decode jc40 3 = .ok (.dup, 1) := by decide +kernel
theorem dj40_4 : decode jc40 4 = .ok (.invokespecial 72, 3) := by decide +kernel
theorem dj40_7 : decode jc40 7 = .ok (.ldc 110, 2) := by decide +kernel
theorem dj40_9 : decode jc40 9 = .ok (.invokevirtual 75, 3) := by decide +kernel
theorem dj40_12 : decode jc40 12 = .ok (.aload_n 0, 1) := by decide +kernel
theorem dj40_13 : decode jc40 13 = .ok (.getfield 37, 3) := by decide +kernel
theorem dj40_16 : decode jc40 16 = .ok (.invokevirtual 75, 3) := by decide +kernel
theorem dj40_19 : decode jc40 19 = .ok (.aload_n 0, 1) := by decide +kernel
theorem dj40_20 : decode jc40 20 = .ok (.invokevirtual 107, 3) := by decide +kernel
theorem dj40_23 : decode jc40 23 = .ok (.invokevirtual 75, 3) := by decide +kernel
theorem dj40_26 : decode jc40 26 = .ok (.invokevirtual 84, 3) := by decide +kernel
theorem dj40_29 : decode jc40 29 = .ok (.areturn, 1) := by decide +kernel
theorem ef_imn (mi : MethodId) (g : Addr) : entryFrame mi #[(.ref g)] 1 = mkF mi 0 #[.val (.ref g)] [] := rfl
def Q_imn (Z : State) (g b tb : Addr) (cb : List Int32) (zc : Int32) (hE : Heap) (n0 : Nat) (vv : Option Value) (hh : Heap) (LL : List Loc) : Prop := ∃ x : Addr, ∃ t : Addr, (vv = some (.ref x)) ∧ (Fr n0 LL) ∧ (Keep hE hh []) ∧ (hE.size ≤ x) ∧ (hE.size ≤ t) ∧ (LStr Z hh x t (((([] : List Int32) ++ ([(106 : Int32), (97 : Int32), (118 : Int32), (97 : Int32), (58 : Int32), (109 : Int32), (111 : Int32), (100 : Int32), (117 : Int32), (108 : Int32), (101 : Int32), (47 : Int32)] : List Int32)) ++ cb) ++ ([] : List Int32)))
theorem rm_imn (hw : HW a0 Z) (ws : List Cond) (g b tb : Addr) (cb : List Int32) (zc : Int32) (hE : Heap) (n0 : Nat) (O : Old Z n0 hE) (P0_ : Exa Z hE g c0_) (P1_ : Fld Z hE g c0_ "beanName" c4_ (.ref b)) (P2_ : LStr Z hE b tb cb) (P3_ : Fld Z hE g c0_ "viewName" c4_ .null) (D0_ : Sta Z Z.heap c1_ c6_ "Z" (.int zc)) (hlb : cb.length ≤ 3) (hzc : ¬ (zc = (0 : Int32))) :
    MW la Z hE mn43 jc40 1 (some (.object c1_)) ws (rr 6 8 200 91) #[(.ref g)] (Q_imn Z g b tb cb zc hE n0) := by
  refine MetFree.of_bodySF (plainFor_of_name pn_com_example_beanloft_beanloft_naming_GlobalName) hisR ?_
  intro pg ev sb mi gs below me cd s₁ Bd hml0 hPt hKt
  obtain ⟨rfl, hZ, hh, hH⟩ := hPt
  have hx := Bd.exec
  have hby := Bd.bytes
  have hml : cd.maxLocals = 1 := hml0
  have hown : sb.vm.findClass c0_ = some mi.cls := findClass_of_methodNamed Bd.named
  have X0 : Stand pg la ev (rr 6 8 200 91) (sb.setVm sb.vm) mi #[(.ref g)] below me cd s₁ [] 0 0 := Stand.of_body Bd
  have eE : s₁.heap = hE := by rw [← hh, Bd.state]; rfl
  have N0 := Fr.nil n0
  have pre0 : ∀ tt, SP pg ev below (s₁.setTop (mkF mi 0 #[.val (.ref g)] [])) tt → SP pg ev below (s₁.setTop (entryFrame mi #[(.ref g)] 1)) tt := fun tt kk => castTop (ef_imn mi g) kk
  have hS : sb.Since sb.vm 0 := (State.WarmedH.refl sb).since 0
  have hk : 0 ≤ hE.size := Nat.zero_le _
  have hEL := own_EW hw
  have C0 := CHr.refl hH
  obtain ⟨T101, h101, X101, e101, E101, A101, D101, -, st101⟩ := newO X0 hx hZ hown (wd130 hw) (wd131 hw) (wd132 hw) eE (g := (mkF mi 0 #[.val (.ref g)] [])) rfl (hb hby dj40_0) (by decide) (by decide)
  obtain ⟨b101, q101⟩ : ∃ z, z = hE.size := ⟨_, rfl⟩
  rw [← q101] at A101 D101 st101
  have c102 := CHr.ext E101 C0.1
  have C103 := CHr.trans C0 c102
  have f104 : Fld Z h101 b101 c2_ "value" "[B" .null := D101 (Or.inl (wd145 hw)) (ty := (.array .byte)) (by decide)
  have f105 : Fld Z h101 b101 c2_ "coder" "B" (.int 0) := D101 (Or.inl (wd147 hw)) (ty := .byte) (by decide)
  have f106 : Fld Z h101 b101 c2_ "count" "I" (.int 0) := D101 (Or.inl (wd165 hw)) (ty := .int) (by decide)
  have O107 : Old Z n0 h101 := (O.ext E101)
  have g_b101 : n0 ≤ b101 := Nat.le_trans (Nat.le_trans (Nat.le_of_eq O.1.symm) O.2.1) (Nat.le_of_eq q101.symm)
  obtain ⟨v108, _, ⟨T108, L108, k108, n108⟩, -, X108, ⟨Lc108, hQ108, l108, y108, z108⟩, st108⟩ := X101.specialBack hx (y := mn3) rfl hown (mvT hZ (wd133 hw)) (mvT hZ (wd134 hw)) (mvT hZ (wd135 hw)) (by decide) (backOf (W := 1) (rm_sbin la Z a0 hw [] b101 zc h101 n0 O107 A101 f104 f105 f106 D0_ g_b101 (hzc : ¬ (zc = (0 : Int32)))) hZ (wd135 hw) (wd132 hw) (by decide) (by decide)) (g := (mkF mi 4 #[.val (.ref g)] [(.ref b101), (.ref b101)])) rfl (by rw [hml]; rfl) (Steps.refl _) (a := b101) (argsL := []) (rest := [(.ref b101)]) (lenOf pd_25 rfl) rfl (Nat.le_of_ble_eq_true rfl) (hb hby dj40_4) (fun _ _ => ⟨rfl, e101, (by decide : 1 + 1 ≤ _), (by decide : 4 + 16 ≤ _)⟩)
  dsimp only [Pt.U, Pt.locs, Pt.cells, Pt.slots] at X108 l108 y108 z108 st108 hQ108
  subst l108 y108 z108
  obtain ⟨t_108, rfl, Nq108, Kq108, fr_t_108, r108_0⟩ := hQ108
  have N108 := Fr.app N0 Nq108
  have c109 := CHr.keep Kq108 (sfS (Safe.exa hZ.alike A101 (by decide) (by decide)) sf0) C103.1
  have C110 := CHr.trans C103 c109
  have sf111 : Safe Z ELs _ T108.heap t_108 := (Safe.keep Kq108 (sfS (Safe.exa hZ.alike A101 (by decide) (by decide)) sf0) C103.1 (Safe.new fr_t_108))
  obtain ⟨a112, T112, h112, k112, d112, kc112, X112, e112, E112, hS, hk, hZ, hown, lE112, lC112, lV112, lA112, -, -, c112, -, hne112, st112⟩ := ldcCH X108 hx hZ hown (wd148 hw) (own_wS hw) rfl hS (Nat.le_trans hk (Nat.le_trans E101.1 Kq108.1)) hEL (by decide +kernel) C110.1 (vs := ([(106 : Int32), (97 : Int32), (118 : Int32), (97 : Int32), (58 : Int32), (109 : Int32), (111 : Int32), (100 : Int32), (117 : Int32), (108 : Int32), (101 : Int32), (47 : Int32)] : List Int32).map fun c => Value.int c.toInt8.toInt32) (z := Int32.ofNat ([(106 : Int32), (97 : Int32), (118 : Int32), (97 : Int32), (58 : Int32), (109 : Int32), (111 : Int32), (100 : Int32), (117 : Int32), (108 : Int32), (101 : Int32), (47 : Int32)] : List Int32).length) (by decide +kernel) (by decide) (by decide) (g := (mkF mi 7 #[.val (.ref g)] [(.ref b101)])) rfl (hb hby dj40_7) (n := 48) (by decide) (by decide) (by decide) (by decide)
  have C113 := CHr.trans C110 c112
  have sf116 : Safe Z ELs _ h112 t_108 := (c112.safe r108_0.ltt sf111)
  have nl115 := hne112 t_108 sf116
  have s114 : LStr Z h112 a112 d112 ([(106 : Int32), (97 : Int32), (118 : Int32), (97 : Int32), (58 : Int32), (109 : Int32), (111 : Int32), (100 : Int32), (117 : Int32), (108 : Int32), (101 : Int32), (47 : Int32)] : List Int32) := ⟨lE112, lV112, lC112, ⟨_, lA112⟩, (by decide), (by decide)⟩
  have O117 : Old Z n0 h112 := ((O107.keep Kq108 (allS g_b101 all0)).ext E112)
  have f118 : SBl Z h112 b101 t_108 16 ([] : List Int32) := (r108_0.ext E112)
  have g_t_108 : n0 ≤ t_108 := Nat.le_trans (Nat.le_trans (Nat.le_of_eq O107.1.symm) O107.2.1) fr_t_108
  have ne_b101_t_108 : b101 ≠ t_108 := Nat.ne_of_lt (Nat.lt_of_lt_of_le A101.lt (Nat.le_trans (Nat.le_refl _) fr_t_108))
  have f119 : Exa Z h112 b101 c3_ := ((A101.keep Kq108).ext E112)
  have ne_a112_b101 : a112 ≠ b101 := ne_exa lE112 f119 (by decide)
  have ne_b101_d112 : b101 ≠ d112 := Exa.neArv f119 lA112 (wd131 hw)
  obtain ⟨cq120, kq120, q120a, q120b, q120c⟩ := isOf hZ e112 f119
  obtain ⟨v120, _, ⟨T120, L120, k120, n120⟩, -, X120, ⟨Lc120, hQ120, l120, y120, z120⟩, st120⟩ := X112.virtualBack hx (y := mn14) (z := mn14) hown (mvT hZ (wd149 hw)) (mvT hZ (wd150 hw)) (notFace_of_selects (args := #[]) (mvT hZ (wd152 hw))) (mvT hZ (wd152 hw)) (mvT hZ (wd151 hw)) (by decide) (backOf (W := 0) (rm_sap_fit la Z a0 hw [] b101 a112 t_108 d112 16 ([] : List Int32) ([(106 : Int32), (97 : Int32), (118 : Int32), (97 : Int32), (58 : Int32), (109 : Int32), (111 : Int32), (100 : Int32), (117 : Int32), (108 : Int32), (101 : Int32), (47 : Int32)] : List Int32) zc h112 n0 O117 f118 s114 D0_ g_b101 g_t_108 ne_b101_t_108 ne_a112_b101 (Ne.symm ne_b101_d112) (by first | assumption | exact Nat.le_of_ble_eq_true rfl | rfl | decide | omega : ([] : List Int32).length + ([(106 : Int32), (97 : Int32), (118 : Int32), (97 : Int32), (58 : Int32), (109 : Int32), (111 : Int32), (100 : Int32), (117 : Int32), (108 : Int32), (101 : Int32), (47 : Int32)] : List Int32).length ≤ 16) (hzc : ¬ (zc = (0 : Int32)))) hZ (wd153 hw) (wd132 hw) (by decide) (by decide)) q120a q120c (g := (mkF mi 9 #[.val (.ref g)] [(.ref a112), (.ref b101)])) rfl (by rw [hml]; rfl) (Steps.refl _) (argsL := [(.ref a112)]) (rest := []) (lenOf pd_28 rfl) rfl (Nat.le_of_ble_eq_true rfl) (hb hby dj40_9) (fun _ _ => ⟨rfl, e112, (by decide : 4 + 0 ≤ _), (by decide : 72 + 0 ≤ _)⟩)
  dsimp only [Pt.U, Pt.locs, Pt.cells, Pt.slots] at X120 l120 y120 z120 st120 hQ120
  subst l120 y120 z120
  obtain ⟨rfl, Nq120, Kq120, r120_0⟩ := hQ120
  have N120 := Fr.app N108 Nq120
  have c121 := CHr.keep Kq120 (sfS (Safe.exa hZ.alike f119 (by decide) (by decide)) (sfS sf116 sf0)) C113.1
  have C122 := CHr.trans C113 c121
  have ne_g_b101 : g ≠ b101 := Nat.ne_of_lt (Nat.lt_of_lt_of_le P0_.lt (Nat.le_trans (Nat.le_refl _) (Nat.le_of_eq q101.symm)))
  have ne_g_t_108 : g ≠ t_108 := Nat.ne_of_lt (Nat.lt_of_lt_of_le P0_.lt (Nat.le_trans E101.1 fr_t_108))
  have f123 : Fld Z T120.heap g c0_ "beanName" c4_ (.ref b) := ((((P1_.ext E101).keep Kq108 (ninS ne_g_b101 nin0)).ext E112).keep Kq120 (ninS ne_g_b101 (ninS ne_g_t_108 nin0)))
  obtain ⟨T124, X124, e124, st124⟩ := getF X120 hx hZ hown (host := "") (Or.inl (wd121 hw)) Via.refl rfl f123 (g := (mkF mi 13 #[.val (.ref g)] [(.ref g), (.ref b101)])) rfl rfl (hb hby dj40_13)
  have O125 : Old Z n0 T120.heap := (O117.keep Kq120 (allS g_b101 (allS g_t_108 all0)))
  have ne_b_b101 : b ≠ b101 := Nat.ne_of_lt (Nat.lt_of_lt_of_le P2_.lt (Nat.le_trans (Nat.le_refl _) (Nat.le_of_eq q101.symm)))
  have ne_tb_b101 : tb ≠ b101 := Nat.ne_of_lt (Nat.lt_of_lt_of_le P2_.ltt (Nat.le_trans (Nat.le_refl _) (Nat.le_of_eq q101.symm)))
  have ne_b_t_108 : b ≠ t_108 := Nat.ne_of_lt (Nat.lt_of_lt_of_le P2_.lt (Nat.le_trans E101.1 fr_t_108))
  have ne_tb_t_108 : tb ≠ t_108 := Nat.ne_of_lt (Nat.lt_of_lt_of_le P2_.ltt (Nat.le_trans E101.1 fr_t_108))
  have f126 : LStr Z T120.heap b tb cb := ((((P2_.ext E101).keep Kq108 (ninS ne_b_b101 nin0) (ninS ne_tb_b101 nin0)).ext E112).keep Kq120 (ninS ne_b_b101 (ninS ne_b_t_108 nin0)) (ninS ne_tb_b101 (ninS ne_tb_t_108 nin0)))
  have f128 : Exa Z T120.heap b101 c3_ := (f119.keep Kq120)
  obtain ⟨cq127, kq127, q127a, q127b, q127c⟩ := isOf hZ e124 f128
  obtain ⟨v127, _, ⟨T127, L127, k127, n127⟩, -, X127, ⟨Lc127, hQ127, l127, y127, z127⟩, st127⟩ := X124.virtualBack hx (y := mn14) (z := mn14) hown (mvT hZ (wd149 hw)) (mvT hZ (wd150 hw)) (notFace_of_selects (args := #[]) (mvT hZ (wd152 hw))) (mvT hZ (wd152 hw)) (mvT hZ (wd151 hw)) (by decide) (backOf (W := 0) (rm_sap_fit la Z a0 hw [] b101 b t_108 tb 16 (([] : List Int32) ++ ([(106 : Int32), (97 : Int32), (118 : Int32), (97 : Int32), (58 : Int32), (109 : Int32), (111 : Int32), (100 : Int32), (117 : Int32), (108 : Int32), (101 : Int32), (47 : Int32)] : List Int32)) cb zc T120.heap n0 O125 r120_0 f126 D0_ g_b101 g_t_108 ne_b101_t_108 ne_b_b101 ne_tb_b101 ((by simp only [List.length_append, List.length_cons, List.length_nil]; omega) : (([] : List Int32) ++ ([(106 : Int32), (97 : Int32), (118 : Int32), (97 : Int32), (58 : Int32), (109 : Int32), (111 : Int32), (100 : Int32), (117 : Int32), (108 : Int32), (101 : Int32), (47 : Int32)] : List Int32)).length + cb.length ≤ 16) (hzc : ¬ (zc = (0 : Int32)))) hZ (wd153 hw) (wd132 hw) (by decide) (by decide)) q127a q127c (g := (mkF mi 16 #[.val (.ref g)] [(.ref b), (.ref b101)])) rfl (by rw [hml]; rfl) (Steps.refl _) (argsL := [(.ref b)]) (rest := []) (lenOf pd_28 rfl) rfl (Nat.le_of_ble_eq_true rfl) (hb hby dj40_16) (fun _ _ => ⟨rfl, e124, (by decide : 4 + 0 ≤ _), (by decide : 72 + 0 ≤ _)⟩)
  dsimp only [Pt.U, Pt.locs, Pt.cells, Pt.slots] at X127 l127 y127 z127 st127 hQ127
  subst l127 y127 z127
  obtain ⟨rfl, Nq127, Kq127, r127_0⟩ := hQ127
  have N127 := Fr.app N120 Nq127
  have sf130 : Safe Z ELs _ T120.heap t_108 := (c121.safe (Nat.lt_of_lt_of_le r108_0.ltt E112.1) sf116)
  have c129 := CHr.keep Kq127 (sfS (Safe.exa hZ.alike f128 (by decide) (by decide)) (sfS sf130 sf0)) C122.1
  have C131 := CHr.trans C122 c129
  have O132 : Old Z n0 T127.heap := (O125.keep Kq127 (allS g_b101 (allS g_t_108 all0)))
  have f133 : Fld Z T127.heap g c0_ "viewName" c4_ .null := (((((P3_.ext E101).keep Kq108 (ninS ne_g_b101 nin0)).ext E112).keep Kq120 (ninS ne_g_b101 (ninS ne_g_t_108 nin0))).keep Kq127 (ninS ne_g_b101 (ninS ne_g_t_108 nin0)))
  have f135 : Exa Z T127.heap g c0_ := (((((P0_.ext E101).keep Kq108).ext E112).keep Kq120).keep Kq127)
  obtain ⟨cq134, qq134, qq134'⟩ := f135.cell
  obtain ⟨v134, _, ⟨T134, L134, k134, n134⟩, -, X134, s134, gr134, ⟨Lc134, hQ134, l134, y134, z134, c134⟩, st134⟩ := X127.privateBackS hx (y := mn42) hown (mvT hZ (wd191 hw)) (mvT hZ (wd192 hw)) (own_selP (mvT (args := #[]) hZ (wd128 hw)) rfl (Cond.privateMethod_at (mvP hZ (wd193 hw) (args := #[]))) (mvT hZ (wd192 hw)) (by decide)) (Cond.privateMethod_at (mvP hZ (wd193 hw) (args := #[]))) (mvT hZ (wd194 hw)) (by decide) (backOfSH (W := 1) (rm_vs0 la Z a0 hw [] g T127.heap n0 O132 f133) hZ (wd194 hw) (wd50 hw) (by decide) (by decide) hEL C131.1) (g := (mkF mi 20 #[.val (.ref g)] [(.ref g), (.ref b101)])) rfl (by rw [hml]; rfl) (Steps.refl _) (a := g) qq134 qq134' (argsL := []) (rest := [(.ref b101)]) (lenOf pd_22 rfl) rfl (Nat.le_of_ble_eq_true rfl) (hb hby dj40_20) (fun _ _ => ⟨rfl, rfl, (by decide : 4 + 2 ≤ _), (by decide : 72 + 4 ≤ _)⟩)
  dsimp only [Pt.U, Pt.locs, Pt.cells, Pt.slots] at X134 s134 gr134 l134 y134 z134 c134 st134 hQ134
  subst l134 y134 z134
  obtain ⟨X134, hS, hZ, hown⟩ := rebS hS (show _ ≤ T127.heap.size from (Nat.le_trans hk (Nat.le_trans Kq120.1 Kq127.1))) X134 s134 gr134 hZ hown
  have hk : T134.heap.size ≤ T134.heap.size := Nat.le_refl _
  obtain ⟨x_134, t_134, rfl, Nq134, Kq134, r134_0⟩ := hQ134
  have N134 := Fr.app N127 Nq134
  have C136 := CHr.trans C131 c134
  obtain ⟨sE137, sV137, sC137, ⟨kb137, sK137⟩, sb137, sl137⟩ := id r134_0
  have sK137' : Arv Z T134.heap t_134 kb137 .byte (0 : Int32) [] (.int 0) := sK137
  have O138 : Old Z n0 T134.heap := (O132.keep Kq134 all0)
  have f139 : SBl Z T134.heap b101 t_108 16 ((([] : List Int32) ++ ([(106 : Int32), (97 : Int32), (118 : Int32), (97 : Int32), (58 : Int32), (109 : Int32), (111 : Int32), (100 : Int32), (117 : Int32), (108 : Int32), (101 : Int32), (47 : Int32)] : List Int32)) ++ cb) := (r127_0.keep Kq134 nin0 nin0)
  have f140 : Exa Z T134.heap b101 c3_ := ((f128.keep Kq127).keep Kq134)
  have ne_x_134_b101 : x_134 ≠ b101 := ne_exa sE137 f140 (by decide)
  have ne_b101_t_134 : b101 ≠ t_134 := Exa.neArv f140 sK137' (wd131 hw)
  obtain ⟨cq141, kq141, q141a, q141b, q141c⟩ := isOf hZ rfl f140
  obtain ⟨v141, _, ⟨T141, L141, k141, n141⟩, -, X141, ⟨Lc141, hQ141, l141, y141, z141⟩, st141⟩ := X134.virtualBack hx (y := mn14) (z := mn14) hown (mvT hZ (wd149 hw)) (mvT hZ (wd150 hw)) (notFace_of_selects (args := #[]) (mvT hZ (wd152 hw))) (mvT hZ (wd152 hw)) (mvT hZ (wd151 hw)) (by decide) (backOf (W := 0) (rm_sap_fit la Z a0 hw [] b101 x_134 t_108 t_134 16 ((([] : List Int32) ++ ([(106 : Int32), (97 : Int32), (118 : Int32), (97 : Int32), (58 : Int32), (109 : Int32), (111 : Int32), (100 : Int32), (117 : Int32), (108 : Int32), (101 : Int32), (47 : Int32)] : List Int32)) ++ cb) ([] : List Int32) zc T134.heap n0 O138 f139 r134_0 D0_ g_b101 g_t_108 ne_b101_t_108 ne_x_134_b101 (Ne.symm ne_b101_t_134) ((by simp only [List.length_append, List.length_cons, List.length_nil]; omega) : ((([] : List Int32) ++ ([(106 : Int32), (97 : Int32), (118 : Int32), (97 : Int32), (58 : Int32), (109 : Int32), (111 : Int32), (100 : Int32), (117 : Int32), (108 : Int32), (101 : Int32), (47 : Int32)] : List Int32)) ++ cb).length + ([] : List Int32).length ≤ 16) (hzc : ¬ (zc = (0 : Int32)))) hZ (wd153 hw) (wd132 hw) (by decide) (by decide)) q141a q141c (g := (mkF mi 23 #[.val (.ref g)] [(.ref x_134), (.ref b101)])) rfl (by rw [hml]; rfl) (Steps.refl _) (argsL := [(.ref x_134)]) (rest := []) (lenOf pd_28 rfl) rfl (Nat.le_of_ble_eq_true rfl) (hb hby dj40_23) (fun _ _ => ⟨rfl, rfl, (by decide : 6 + 0 ≤ _), (by decide : 76 + 0 ≤ _)⟩)
  dsimp only [Pt.U, Pt.locs, Pt.cells, Pt.slots] at X141 l141 y141 z141 st141 hQ141
  subst l141 y141 z141
  obtain ⟨rfl, Nq141, Kq141, r141_0⟩ := hQ141
  have N141 := Fr.app N134 Nq141
  have sf143 : Safe Z ELs _ T134.heap t_108 := (c134.safe (Nat.lt_of_lt_of_le r108_0.ltt (Nat.le_trans (Nat.le_trans E112.1 Kq120.1) Kq127.1)) (c129.safe (Nat.lt_of_lt_of_le r108_0.ltt (Nat.le_trans E112.1 Kq120.1)) sf130))
  have c142 := CHr.keep Kq141 (sfS (Safe.exa hZ.alike f140 (by decide) (by decide)) (sfS sf143 sf0)) C136.1
  have C144 := CHr.trans C136 c142
  have O145 : Old Z n0 T141.heap := (O138.keep Kq141 (allS g_b101 (allS g_t_108 all0)))
  have f147 : Exa Z T141.heap b101 c3_ := (f140.keep Kq141)
  obtain ⟨cq146, kq146, q146a, q146b, q146c⟩ := isOf hZ rfl f147
  obtain ⟨v146, _, ⟨T146, L146, k146, n146⟩, -, X146, ⟨Lc146, hQ146, l146, y146, z146⟩, st146⟩ := X141.virtualBack hx (y := mn24) (z := mn24) hown (mvT hZ (wd196 hw)) (mvT hZ (wd197 hw)) (notFace_of_selects (args := #[]) (mvT hZ (wd199 hw))) (mvT hZ (wd199 hw)) (mvT hZ (wd198 hw)) (by decide) (backOf (W := 0) (rm_sbt_cut la Z a0 hw [] b101 t_108 16 (((([] : List Int32) ++ ([(106 : Int32), (97 : Int32), (118 : Int32), (97 : Int32), (58 : Int32), (109 : Int32), (111 : Int32), (100 : Int32), (117 : Int32), (108 : Int32), (101 : Int32), (47 : Int32)] : List Int32)) ++ cb) ++ ([] : List Int32)) zc T141.heap n0 O145 r141_0 D0_ ((by simp only [List.length_append, List.length_cons, List.length_nil]; omega) : (((([] : List Int32) ++ ([(106 : Int32), (97 : Int32), (118 : Int32), (97 : Int32), (58 : Int32), (109 : Int32), (111 : Int32), (100 : Int32), (117 : Int32), (108 : Int32), (101 : Int32), (47 : Int32)] : List Int32)) ++ cb) ++ ([] : List Int32)).length < 16) (hzc : ¬ (zc = (0 : Int32)))) hZ (wd200 hw) (wd132 hw) (by decide) (by decide)) q146a q146c (g := (mkF mi 26 #[.val (.ref g)] [(.ref b101)])) rfl (by rw [hml]; rfl) (Steps.refl _) (argsL := []) (rest := []) (lenOf pd_22 rfl) rfl (Nat.le_of_ble_eq_true rfl) (hb hby dj40_26) (fun _ _ => ⟨rfl, rfl, (by decide : 6 + 2 ≤ _), (by decide : 76 + 124 ≤ _)⟩)
  dsimp only [Pt.U, Pt.locs, Pt.cells, Pt.slots] at X146 l146 y146 z146 st146 hQ146
  subst l146 y146 z146
  obtain ⟨x_146, r_146, rfl, Nq146, Kq146, fr_x_146, fr_r_146, r146_0⟩ := hQ146
  have N146 := Fr.app N141 Nq146
  have c148 := CHr.keep Kq146 sf0 C144.1
  have C149 := CHr.trans C144 c148
  obtain ⟨fs, hr, hrun, hended, hWe⟩ := X146.leaveW hS (show _ ≤ T146.heap.size from (Nat.le_trans hk (Nat.le_trans Kq141.1 Kq146.1))) (v := some (.ref x_146)) (fun hq => by rw [Bd.returns] at hq; cases hq)
  refine ⟨_, _, pre0 _ ?_, hrun, hended, _, _, rfl, ?_, ?_, hWe.1, hWe.2.1, hWe.2.2.1, hWe.2.2.2.mono (by decide) (by decide)⟩
  · show SP pg ev below (s₁.setTop (mkF mi 0 #[.val (.ref g)] [])) _
    refine st101 _ ?_
    refine XS.dup X101.here hx rfl (hb hby dj40_3) rfl rfl ?_
    refine st108.trans ?_
    refine st112 _ ?_
    refine st120.trans ?_
    refine XS.aloadN X120.here hx rfl (hb hby dj40_12) rfl rfl ?_
    refine st124 _ ?_
    refine st127.trans ?_
    refine XS.aloadN X127.here hx rfl (hb hby dj40_19) rfl rfl ?_
    refine st134.trans ?_
    refine st141.trans ?_
    refine st146.trans ?_
    show SP pg ev below (T146.setTop (mkF mi 29 #[.val (.ref g)] [(.ref x_146)])) _
    jvm_step X146.here [X146.here.top, hx, (hb hby dj40_29), X146.method', Bd.returns, Value.isRef, FieldType.isReference]
    first | (intro acts; rw [hr _ acts rfl rfl rfl]) | rw [hr _ _ rfl rfl rfl]
    exact Steps.refl _
  · show Q_imn Z g b tb cb zc hE n0 _ T146.heap _
    exact ⟨x_146, r_146, rfl, N146, (((((((((Keep.refl hE []).ext E101).trans Kq108 (allS (Or.inr (Nat.le_of_eq q101.symm)) all0)).ext E112).trans Kq120 (allS (Or.inr (Nat.le_of_eq q101.symm)) (allS (Or.inr (Nat.le_trans E101.1 fr_t_108)) all0))).trans Kq127 (allS (Or.inr (Nat.le_of_eq q101.symm)) (allS (Or.inr (Nat.le_trans E101.1 fr_t_108)) all0))).trans Kq134 all0).trans Kq141 (allS (Or.inr (Nat.le_of_eq q101.symm)) (allS (Or.inr (Nat.le_trans E101.1 fr_t_108)) all0))).trans Kq146 all0), (Nat.le_trans (Nat.le_trans (Nat.le_trans (Nat.le_trans (Nat.le_trans (Nat.le_trans (Nat.le_trans E101.1 Kq108.1) E112.1) Kq120.1) Kq127.1) Kq134.1) Kq141.1) fr_x_146), (Nat.le_trans (Nat.le_trans (Nat.le_trans (Nat.le_trans (Nat.le_trans (Nat.le_trans (Nat.le_trans E101.1 Kq108.1) E112.1) Kq120.1) Kq127.1) Kq134.1) Kq141.1) fr_r_146), r146_0⟩
  · show CHr Z ELs sb.vm sb.heap T146.vm T146.heap
    rw [hh]
    exact CHr.trans C149 (CHv.at X146 hZ hEL C149.1)
theorem ef_im1 (mi : MethodId) (g : Addr) : entryFrame mi #[(.ref g)] 1 = mkF mi 0 #[.val (.ref g)] [] := rfl
def Q_im1 (Z : State) (g b tb : Addr) (cb : List Int32) (v tv : Addr) (cv : List Int32) (zc : Int32) (hE : Heap) (n0 : Nat) (vv : Option Value) (hh : Heap) (LL : List Loc) : Prop := ∃ x : Addr, ∃ t : Addr, (vv = some (.ref x)) ∧ (Fr n0 LL) ∧ (Keep hE hh []) ∧ (hE.size ≤ x) ∧ (hE.size ≤ t) ∧ (LStr Z hh x t (((([] : List Int32) ++ ([(106 : Int32), (97 : Int32), (118 : Int32), (97 : Int32), (58 : Int32), (109 : Int32), (111 : Int32), (100 : Int32), (117 : Int32), (108 : Int32), (101 : Int32), (47 : Int32)] : List Int32)) ++ cb) ++ ((([] : List Int32) ++ ([(33 : Int32)] : List Int32)) ++ cv)))
theorem rm_im1 (hw : HW a0 Z) (ws : List Cond) (g b tb : Addr) (cb : List Int32) (v tv : Addr) (cv : List Int32) (zc : Int32) (hE : Heap) (n0 : Nat) (O : Old Z n0 hE) (P0_ : Exa Z hE g c0_) (P1_ : Fld Z hE g c0_ "beanName" c4_ (.ref b)) (P2_ : LStr Z hE b tb cb) (P3_ : Fld Z hE g c0_ "viewName" c4_ (.ref v)) (P4_ : LStr Z hE v tv cv) (D0_ : Sta Z Z.heap c1_ c6_ "Z" (.int zc)) (hlb : cb.length = 1) (hlv : cv.length = 2) (hzc : ¬ (zc = (0 : Int32))) :
    MW la Z hE mn43 jc40 1 (some (.object c1_)) ws (rr 7 12 348 104) #[(.ref g)] (Q_im1 Z g b tb cb v tv cv zc hE n0) := by
  refine MetFree.of_bodySF (plainFor_of_name pn_com_example_beanloft_beanloft_naming_GlobalName) hisR ?_
  intro pg ev sb mi gs below me cd s₁ Bd hml0 hPt hKt
  obtain ⟨rfl, hZ, hh, hH⟩ := hPt
  have hx := Bd.exec
  have hby := Bd.bytes
  have hml : cd.maxLocals = 1 := hml0
  have hown : sb.vm.findClass c0_ = some mi.cls := findClass_of_methodNamed Bd.named
  have X0 : Stand pg la ev (rr 7 12 348 104) (sb.setVm sb.vm) mi #[(.ref g)] below me cd s₁ [] 0 0 := Stand.of_body Bd
  have eE : s₁.heap = hE := by rw [← hh, Bd.state]; rfl
  have N0 := Fr.nil n0
  have pre0 : ∀ tt, SP pg ev below (s₁.setTop (mkF mi 0 #[.val (.ref g)] [])) tt → SP pg ev below (s₁.setTop (entryFrame mi #[(.ref g)] 1)) tt := fun tt kk => castTop (ef_im1 mi g) kk
  have hS : sb.Since sb.vm 0 := (State.WarmedH.refl sb).since 0
  have hk : 0 ≤ hE.size := Nat.zero_le _
  have hEL := own_EW hw
  have C0 := CHr.refl hH
  obtain ⟨T101, h101, X101, e101, E101, A101, D101, -, st101⟩ := newO X0 hx hZ hown (wd130 hw) (wd131 hw) (wd132 hw) eE (g := (mkF mi 0 #[.val (.ref g)] [])) rfl (hb hby dj40_0) (by decide) (by decide)
  obtain ⟨b101, q101⟩ : ∃ z, z = hE.size := ⟨_, rfl⟩
  rw [← q101] at A101 D101 st101
  have c102 := CHr.ext E101 C0.1
  have C103 := CHr.trans C0 c102
  have f104 : Fld Z h101 b101 c2_ "value" "[B" .null := D101 (Or.inl (wd145 hw)) (ty := (.array .byte)) (by decide)
  have f105 : Fld Z h101 b101 c2_ "coder" "B" (.int 0) := D101 (Or.inl (wd147 hw)) (ty := .byte) (by decide)
  have f106 : Fld Z h101 b101 c2_ "count" "I" (.int 0) := D101 (Or.inl (wd165 hw)) (ty := .int) (by decide)
  have O107 : Old Z n0 h101 := (O.ext E101)
  have g_b101 : n0 ≤ b101 := Nat.le_trans (Nat.le_trans (Nat.le_of_eq O.1.symm) O.2.1) (Nat.le_of_eq q101.symm)
  obtain ⟨v108, _, ⟨T108, L108, k108, n108⟩, -, X108, ⟨Lc108, hQ108, l108, y108, z108⟩, st108⟩ := X101.specialBack hx (y := mn3) rfl hown (mvT hZ (wd133 hw)) (mvT hZ (wd134 hw)) (mvT hZ (wd135 hw)) (by decide) (backOf (W := 1) (rm_sbin la Z a0 hw [] b101 zc h101 n0 O107 A101 f104 f105 f106 D0_ g_b101 (hzc : ¬ (zc = (0 : Int32)))) hZ (wd135 hw) (wd132 hw) (by decide) (by decide)) (g := (mkF mi 4 #[.val (.ref g)] [(.ref b101), (.ref b101)])) rfl (by rw [hml]; rfl) (Steps.refl _) (a := b101) (argsL := []) (rest := [(.ref b101)]) (lenOf pd_25 rfl) rfl (Nat.le_of_ble_eq_true rfl) (hb hby dj40_4) (fun _ _ => ⟨rfl, e101, (by decide : 1 + 1 ≤ _), (by decide : 4 + 16 ≤ _)⟩)
  dsimp only [Pt.U, Pt.locs, Pt.cells, Pt.slots] at X108 l108 y108 z108 st108 hQ108
  subst l108 y108 z108
  obtain ⟨t_108, rfl, Nq108, Kq108, fr_t_108, r108_0⟩ := hQ108
  have N108 := Fr.app N0 Nq108
  have c109 := CHr.keep Kq108 (sfS (Safe.exa hZ.alike A101 (by decide) (by decide)) sf0) C103.1
  have C110 := CHr.trans C103 c109
  have sf111 : Safe Z ELs _ T108.heap t_108 := (Safe.keep Kq108 (sfS (Safe.exa hZ.alike A101 (by decide) (by decide)) sf0) C103.1 (Safe.new fr_t_108))
  obtain ⟨a112, T112, h112, k112, d112, kc112, X112, e112, E112, hS, hk, hZ, hown, lE112, lC112, lV112, lA112, -, -, c112, -, hne112, st112⟩ := ldcCH X108 hx hZ hown (wd148 hw) (own_wS hw) rfl hS (Nat.le_trans hk (Nat.le_trans E101.1 Kq108.1)) hEL (by decide +kernel) C110.1 (vs := ([(106 : Int32), (97 : Int32), (118 : Int32), (97 : Int32), (58 : Int32), (109 : Int32), (111 : Int32), (100 : Int32), (117 : Int32), (108 : Int32), (101 : Int32), (47 : Int32)] : List Int32).map fun c => Value.int c.toInt8.toInt32) (z := Int32.ofNat ([(106 : Int32), (97 : Int32), (118 : Int32), (97 : Int32), (58 : Int32), (109 : Int32), (111 : Int32), (100 : Int32), (117 : Int32), (108 : Int32), (101 : Int32), (47 : Int32)] : List Int32).length) (by decide +kernel) (by decide) (by decide) (g := (mkF mi 7 #[.val (.ref g)] [(.ref b101)])) rfl (hb hby dj40_7) (n := 48) (by decide) (by decide) (by decide) (by decide)
  have C113 := CHr.trans C110 c112
  have sf116 : Safe Z ELs _ h112 t_108 := (c112.safe r108_0.ltt sf111)
  have nl115 := hne112 t_108 sf116
  have s114 : LStr Z h112 a112 d112 ([(106 : Int32), (97 : Int32), (118 : Int32), (97 : Int32), (58 : Int32), (109 : Int32), (111 : Int32), (100 : Int32), (117 : Int32), (108 : Int32), (101 : Int32), (47 : Int32)] : List Int32) := ⟨lE112, lV112, lC112, ⟨_, lA112⟩, (by decide), (by decide)⟩
  have O117 : Old Z n0 h112 := ((O107.keep Kq108 (allS g_b101 all0)).ext E112)
  have f118 : SBl Z h112 b101 t_108 16 ([] : List Int32) := (r108_0.ext E112)
  have g_t_108 : n0 ≤ t_108 := Nat.le_trans (Nat.le_trans (Nat.le_of_eq O107.1.symm) O107.2.1) fr_t_108
  have ne_b101_t_108 : b101 ≠ t_108 := Nat.ne_of_lt (Nat.lt_of_lt_of_le A101.lt (Nat.le_trans (Nat.le_refl _) fr_t_108))
  have f119 : Exa Z h112 b101 c3_ := ((A101.keep Kq108).ext E112)
  have ne_a112_b101 : a112 ≠ b101 := ne_exa lE112 f119 (by decide)
  have ne_b101_d112 : b101 ≠ d112 := Exa.neArv f119 lA112 (wd131 hw)
  obtain ⟨cq120, kq120, q120a, q120b, q120c⟩ := isOf hZ e112 f119
  obtain ⟨v120, _, ⟨T120, L120, k120, n120⟩, -, X120, ⟨Lc120, hQ120, l120, y120, z120⟩, st120⟩ := X112.virtualBack hx (y := mn14) (z := mn14) hown (mvT hZ (wd149 hw)) (mvT hZ (wd150 hw)) (notFace_of_selects (args := #[]) (mvT hZ (wd152 hw))) (mvT hZ (wd152 hw)) (mvT hZ (wd151 hw)) (by decide) (backOf (W := 0) (rm_sap_fit la Z a0 hw [] b101 a112 t_108 d112 16 ([] : List Int32) ([(106 : Int32), (97 : Int32), (118 : Int32), (97 : Int32), (58 : Int32), (109 : Int32), (111 : Int32), (100 : Int32), (117 : Int32), (108 : Int32), (101 : Int32), (47 : Int32)] : List Int32) zc h112 n0 O117 f118 s114 D0_ g_b101 g_t_108 ne_b101_t_108 ne_a112_b101 (Ne.symm ne_b101_d112) (by first | assumption | exact Nat.le_of_ble_eq_true rfl | rfl | decide | omega : ([] : List Int32).length + ([(106 : Int32), (97 : Int32), (118 : Int32), (97 : Int32), (58 : Int32), (109 : Int32), (111 : Int32), (100 : Int32), (117 : Int32), (108 : Int32), (101 : Int32), (47 : Int32)] : List Int32).length ≤ 16) (hzc : ¬ (zc = (0 : Int32)))) hZ (wd153 hw) (wd132 hw) (by decide) (by decide)) q120a q120c (g := (mkF mi 9 #[.val (.ref g)] [(.ref a112), (.ref b101)])) rfl (by rw [hml]; rfl) (Steps.refl _) (argsL := [(.ref a112)]) (rest := []) (lenOf pd_28 rfl) rfl (Nat.le_of_ble_eq_true rfl) (hb hby dj40_9) (fun _ _ => ⟨rfl, e112, (by decide : 4 + 0 ≤ _), (by decide : 72 + 0 ≤ _)⟩)
  dsimp only [Pt.U, Pt.locs, Pt.cells, Pt.slots] at X120 l120 y120 z120 st120 hQ120
  subst l120 y120 z120
  obtain ⟨rfl, Nq120, Kq120, r120_0⟩ := hQ120
  have N120 := Fr.app N108 Nq120
  have c121 := CHr.keep Kq120 (sfS (Safe.exa hZ.alike f119 (by decide) (by decide)) (sfS sf116 sf0)) C113.1
  have C122 := CHr.trans C113 c121
  have ne_g_b101 : g ≠ b101 := Nat.ne_of_lt (Nat.lt_of_lt_of_le P0_.lt (Nat.le_trans (Nat.le_refl _) (Nat.le_of_eq q101.symm)))
  have ne_g_t_108 : g ≠ t_108 := Nat.ne_of_lt (Nat.lt_of_lt_of_le P0_.lt (Nat.le_trans E101.1 fr_t_108))
  have f123 : Fld Z T120.heap g c0_ "beanName" c4_ (.ref b) := ((((P1_.ext E101).keep Kq108 (ninS ne_g_b101 nin0)).ext E112).keep Kq120 (ninS ne_g_b101 (ninS ne_g_t_108 nin0)))
  obtain ⟨T124, X124, e124, st124⟩ := getF X120 hx hZ hown (host := "") (Or.inl (wd121 hw)) Via.refl rfl f123 (g := (mkF mi 13 #[.val (.ref g)] [(.ref g), (.ref b101)])) rfl rfl (hb hby dj40_13)
  have O125 : Old Z n0 T120.heap := (O117.keep Kq120 (allS g_b101 (allS g_t_108 all0)))
  have ne_b_b101 : b ≠ b101 := Nat.ne_of_lt (Nat.lt_of_lt_of_le P2_.lt (Nat.le_trans (Nat.le_refl _) (Nat.le_of_eq q101.symm)))
  have ne_tb_b101 : tb ≠ b101 := Nat.ne_of_lt (Nat.lt_of_lt_of_le P2_.ltt (Nat.le_trans (Nat.le_refl _) (Nat.le_of_eq q101.symm)))
  have ne_b_t_108 : b ≠ t_108 := Nat.ne_of_lt (Nat.lt_of_lt_of_le P2_.lt (Nat.le_trans E101.1 fr_t_108))
  have ne_tb_t_108 : tb ≠ t_108 := Nat.ne_of_lt (Nat.lt_of_lt_of_le P2_.ltt (Nat.le_trans E101.1 fr_t_108))
  have f126 : LStr Z T120.heap b tb cb := ((((P2_.ext E101).keep Kq108 (ninS ne_b_b101 nin0) (ninS ne_tb_b101 nin0)).ext E112).keep Kq120 (ninS ne_b_b101 (ninS ne_b_t_108 nin0)) (ninS ne_tb_b101 (ninS ne_tb_t_108 nin0)))
  have f128 : Exa Z T120.heap b101 c3_ := (f119.keep Kq120)
  obtain ⟨cq127, kq127, q127a, q127b, q127c⟩ := isOf hZ e124 f128
  obtain ⟨v127, _, ⟨T127, L127, k127, n127⟩, -, X127, ⟨Lc127, hQ127, l127, y127, z127⟩, st127⟩ := X124.virtualBack hx (y := mn14) (z := mn14) hown (mvT hZ (wd149 hw)) (mvT hZ (wd150 hw)) (notFace_of_selects (args := #[]) (mvT hZ (wd152 hw))) (mvT hZ (wd152 hw)) (mvT hZ (wd151 hw)) (by decide) (backOf (W := 0) (rm_sap_fit la Z a0 hw [] b101 b t_108 tb 16 (([] : List Int32) ++ ([(106 : Int32), (97 : Int32), (118 : Int32), (97 : Int32), (58 : Int32), (109 : Int32), (111 : Int32), (100 : Int32), (117 : Int32), (108 : Int32), (101 : Int32), (47 : Int32)] : List Int32)) cb zc T120.heap n0 O125 r120_0 f126 D0_ g_b101 g_t_108 ne_b101_t_108 ne_b_b101 ne_tb_b101 ((by simp only [List.length_append, List.length_cons, List.length_nil]; omega) : (([] : List Int32) ++ ([(106 : Int32), (97 : Int32), (118 : Int32), (97 : Int32), (58 : Int32), (109 : Int32), (111 : Int32), (100 : Int32), (117 : Int32), (108 : Int32), (101 : Int32), (47 : Int32)] : List Int32)).length + cb.length ≤ 16) (hzc : ¬ (zc = (0 : Int32)))) hZ (wd153 hw) (wd132 hw) (by decide) (by decide)) q127a q127c (g := (mkF mi 16 #[.val (.ref g)] [(.ref b), (.ref b101)])) rfl (by rw [hml]; rfl) (Steps.refl _) (argsL := [(.ref b)]) (rest := []) (lenOf pd_28 rfl) rfl (Nat.le_of_ble_eq_true rfl) (hb hby dj40_16) (fun _ _ => ⟨rfl, e124, (by decide : 4 + 0 ≤ _), (by decide : 72 + 0 ≤ _)⟩)
  dsimp only [Pt.U, Pt.locs, Pt.cells, Pt.slots] at X127 l127 y127 z127 st127 hQ127
  subst l127 y127 z127
  obtain ⟨rfl, Nq127, Kq127, r127_0⟩ := hQ127
  have N127 := Fr.app N120 Nq127
  have sf130 : Safe Z ELs _ T120.heap t_108 := (c121.safe (Nat.lt_of_lt_of_le r108_0.ltt E112.1) sf116)
  have c129 := CHr.keep Kq127 (sfS (Safe.exa hZ.alike f128 (by decide) (by decide)) (sfS sf130 sf0)) C122.1
  have C131 := CHr.trans C122 c129
  have O132 : Old Z n0 T127.heap := (O125.keep Kq127 (allS g_b101 (allS g_t_108 all0)))
  have f133 : Fld Z T127.heap g c0_ "viewName" c4_ (.ref v) := (((((P3_.ext E101).keep Kq108 (ninS ne_g_b101 nin0)).ext E112).keep Kq120 (ninS ne_g_b101 (ninS ne_g_t_108 nin0))).keep Kq127 (ninS ne_g_b101 (ninS ne_g_t_108 nin0)))
  have ne_v_b101 : v ≠ b101 := Nat.ne_of_lt (Nat.lt_of_lt_of_le P4_.lt (Nat.le_trans (Nat.le_refl _) (Nat.le_of_eq q101.symm)))
  have ne_tv_b101 : tv ≠ b101 := Nat.ne_of_lt (Nat.lt_of_lt_of_le P4_.ltt (Nat.le_trans (Nat.le_refl _) (Nat.le_of_eq q101.symm)))
  have ne_v_t_108 : v ≠ t_108 := Nat.ne_of_lt (Nat.lt_of_lt_of_le P4_.lt (Nat.le_trans E101.1 fr_t_108))
  have ne_tv_t_108 : tv ≠ t_108 := Nat.ne_of_lt (Nat.lt_of_lt_of_le P4_.ltt (Nat.le_trans E101.1 fr_t_108))
  have f134 : LStr Z T127.heap v tv cv := (((((P4_.ext E101).keep Kq108 (ninS ne_v_b101 nin0) (ninS ne_tv_b101 nin0)).ext E112).keep Kq120 (ninS ne_v_b101 (ninS ne_v_t_108 nin0)) (ninS ne_tv_b101 (ninS ne_tv_t_108 nin0))).keep Kq127 (ninS ne_v_b101 (ninS ne_v_t_108 nin0)) (ninS ne_tv_b101 (ninS ne_tv_t_108 nin0)))
  have f136 : Exa Z T127.heap g c0_ := (((((P0_.ext E101).keep Kq108).ext E112).keep Kq120).keep Kq127)
  obtain ⟨cq135, qq135, qq135'⟩ := f136.cell
  obtain ⟨v135, _, ⟨T135, L135, k135, n135⟩, -, X135, s135, gr135, ⟨Lc135, hQ135, l135, y135, z135, c135⟩, st135⟩ := X127.privateBackS hx (y := mn42) hown (mvT hZ (wd191 hw)) (mvT hZ (wd192 hw)) (own_selP (mvT (args := #[]) hZ (wd128 hw)) rfl (Cond.privateMethod_at (mvP hZ (wd193 hw) (args := #[]))) (mvT hZ (wd192 hw)) (by decide)) (Cond.privateMethod_at (mvP hZ (wd193 hw) (args := #[]))) (mvT hZ (wd194 hw)) (by decide) (backOfSH (W := 1) (rm_vs1 la Z a0 hw [] g v tv cv zc T127.heap n0 O132 f133 f134 D0_ (hlv : cv.length = 2) (hzc : ¬ (zc = (0 : Int32)))) hZ (wd194 hw) (wd50 hw) (by decide) (by decide) hEL C131.1) (g := (mkF mi 20 #[.val (.ref g)] [(.ref g), (.ref b101)])) rfl (by rw [hml]; rfl) (Steps.refl _) (a := g) qq135 qq135' (argsL := []) (rest := [(.ref b101)]) (lenOf pd_22 rfl) rfl (Nat.le_of_ble_eq_true rfl) (hb hby dj40_20) (fun _ _ => ⟨rfl, rfl, (by decide : 4 + 6 ≤ _), (by decide : 72 + 152 ≤ _)⟩)
  dsimp only [Pt.U, Pt.locs, Pt.cells, Pt.slots] at X135 s135 gr135 l135 y135 z135 c135 st135 hQ135
  subst l135 y135 z135
  obtain ⟨X135, hS, hZ, hown⟩ := rebS hS (show _ ≤ T127.heap.size from (Nat.le_trans hk (Nat.le_trans Kq120.1 Kq127.1))) X135 s135 gr135 hZ hown
  have hk : T135.heap.size ≤ T135.heap.size := Nat.le_refl _
  obtain ⟨x_135, t_135, rfl, Nq135, Kq135, fr_x_135, fr_t_135, r135_0⟩ := hQ135
  have N135 := Fr.app N127 Nq135
  have C137 := CHr.trans C131 c135
  obtain ⟨sE138, sV138, sC138, ⟨kb138, sK138⟩, sb138, sl138⟩ := id r135_0
  have O139 : Old Z n0 T135.heap := (O132.keep Kq135 all0)
  have f140 : SBl Z T135.heap b101 t_108 16 ((([] : List Int32) ++ ([(106 : Int32), (97 : Int32), (118 : Int32), (97 : Int32), (58 : Int32), (109 : Int32), (111 : Int32), (100 : Int32), (117 : Int32), (108 : Int32), (101 : Int32), (47 : Int32)] : List Int32)) ++ cb) := (r127_0.keep Kq135 nin0 nin0)
  have ne_b101_x_135 : b101 ≠ x_135 := Nat.ne_of_lt (Nat.lt_of_lt_of_le A101.lt (Nat.le_trans (Nat.le_trans (Nat.le_trans (Nat.le_trans Kq108.1 E112.1) Kq120.1) Kq127.1) fr_x_135))
  have ne_b101_t_135 : b101 ≠ t_135 := Nat.ne_of_lt (Nat.lt_of_lt_of_le A101.lt (Nat.le_trans (Nat.le_trans (Nat.le_trans (Nat.le_trans Kq108.1 E112.1) Kq120.1) Kq127.1) fr_t_135))
  have f142 : Exa Z T135.heap b101 c3_ := ((f128.keep Kq127).keep Kq135)
  obtain ⟨cq141, kq141, q141a, q141b, q141c⟩ := isOf hZ rfl f142
  obtain ⟨v141, _, ⟨T141, L141, k141, n141⟩, -, X141, ⟨Lc141, hQ141, l141, y141, z141⟩, st141⟩ := X135.virtualBack hx (y := mn14) (z := mn14) hown (mvT hZ (wd149 hw)) (mvT hZ (wd150 hw)) (notFace_of_selects (args := #[]) (mvT hZ (wd152 hw))) (mvT hZ (wd152 hw)) (mvT hZ (wd151 hw)) (by decide) (backOf (W := 0) (rm_sap_fit la Z a0 hw [] b101 x_135 t_108 t_135 16 ((([] : List Int32) ++ ([(106 : Int32), (97 : Int32), (118 : Int32), (97 : Int32), (58 : Int32), (109 : Int32), (111 : Int32), (100 : Int32), (117 : Int32), (108 : Int32), (101 : Int32), (47 : Int32)] : List Int32)) ++ cb) ((([] : List Int32) ++ ([(33 : Int32)] : List Int32)) ++ cv) zc T135.heap n0 O139 f140 r135_0 D0_ g_b101 g_t_108 ne_b101_t_108 (Ne.symm ne_b101_x_135) (Ne.symm ne_b101_t_135) ((by simp only [List.length_append, List.length_cons, List.length_nil]; omega) : ((([] : List Int32) ++ ([(106 : Int32), (97 : Int32), (118 : Int32), (97 : Int32), (58 : Int32), (109 : Int32), (111 : Int32), (100 : Int32), (117 : Int32), (108 : Int32), (101 : Int32), (47 : Int32)] : List Int32)) ++ cb).length + ((([] : List Int32) ++ ([(33 : Int32)] : List Int32)) ++ cv).length ≤ 16) (hzc : ¬ (zc = (0 : Int32)))) hZ (wd153 hw) (wd132 hw) (by decide) (by decide)) q141a q141c (g := (mkF mi 23 #[.val (.ref g)] [(.ref x_135), (.ref b101)])) rfl (by rw [hml]; rfl) (Steps.refl _) (argsL := [(.ref x_135)]) (rest := []) (lenOf pd_28 rfl) rfl (Nat.le_of_ble_eq_true rfl) (hb hby dj40_23) (fun _ _ => ⟨rfl, rfl, (by decide : 10 + 0 ≤ _), (by decide : 224 + 0 ≤ _)⟩)
  dsimp only [Pt.U, Pt.locs, Pt.cells, Pt.slots] at X141 l141 y141 z141 st141 hQ141
  subst l141 y141 z141
  obtain ⟨rfl, Nq141, Kq141, r141_0⟩ := hQ141
  have N141 := Fr.app N135 Nq141
  have sf144 : Safe Z ELs _ T135.heap t_108 := (c135.safe (Nat.lt_of_lt_of_le r108_0.ltt (Nat.le_trans (Nat.le_trans E112.1 Kq120.1) Kq127.1)) (c129.safe (Nat.lt_of_lt_of_le r108_0.ltt (Nat.le_trans E112.1 Kq120.1)) sf130))
  have c143 := CHr.keep Kq141 (sfS (Safe.exa hZ.alike f142 (by decide) (by decide)) (sfS sf144 sf0)) C137.1
  have C145 := CHr.trans C137 c143
  have O146 : Old Z n0 T141.heap := (O139.keep Kq141 (allS g_b101 (allS g_t_108 all0)))
  have f148 : Exa Z T141.heap b101 c3_ := (f142.keep Kq141)
  obtain ⟨cq147, kq147, q147a, q147b, q147c⟩ := isOf hZ rfl f148
  obtain ⟨v147, _, ⟨T147, L147, k147, n147⟩, -, X147, ⟨Lc147, hQ147, l147, y147, z147⟩, st147⟩ := X141.virtualBack hx (y := mn24) (z := mn24) hown (mvT hZ (wd196 hw)) (mvT hZ (wd197 hw)) (notFace_of_selects (args := #[]) (mvT hZ (wd199 hw))) (mvT hZ (wd199 hw)) (mvT hZ (wd198 hw)) (by decide) (backOf (W := 0) (rm_sbt_full la Z a0 hw [] b101 t_108 16 (((([] : List Int32) ++ ([(106 : Int32), (97 : Int32), (118 : Int32), (97 : Int32), (58 : Int32), (109 : Int32), (111 : Int32), (100 : Int32), (117 : Int32), (108 : Int32), (101 : Int32), (47 : Int32)] : List Int32)) ++ cb) ++ ((([] : List Int32) ++ ([(33 : Int32)] : List Int32)) ++ cv)) zc T141.heap n0 O146 r141_0 D0_ ((by simp only [List.length_append, List.length_cons, List.length_nil]; omega) : (((([] : List Int32) ++ ([(106 : Int32), (97 : Int32), (118 : Int32), (97 : Int32), (58 : Int32), (109 : Int32), (111 : Int32), (100 : Int32), (117 : Int32), (108 : Int32), (101 : Int32), (47 : Int32)] : List Int32)) ++ cb) ++ ((([] : List Int32) ++ ([(33 : Int32)] : List Int32)) ++ cv)).length = 16) (hzc : ¬ (zc = (0 : Int32)))) hZ (wd200 hw) (wd132 hw) (by decide) (by decide)) q147a q147c (g := (mkF mi 26 #[.val (.ref g)] [(.ref b101)])) rfl (by rw [hml]; rfl) (Steps.refl _) (argsL := []) (rest := []) (lenOf pd_22 rfl) rfl (Nat.le_of_ble_eq_true rfl) (hb hby dj40_26) (fun _ _ => ⟨rfl, rfl, (by decide : 10 + 2 ≤ _), (by decide : 224 + 124 ≤ _)⟩)
  dsimp only [Pt.U, Pt.locs, Pt.cells, Pt.slots] at X147 l147 y147 z147 st147 hQ147
  subst l147 y147 z147
  obtain ⟨x_147, r_147, rfl, Nq147, Kq147, fr_x_147, fr_r_147, r147_0⟩ := hQ147
  have N147 := Fr.app N141 Nq147
  have c149 := CHr.keep Kq147 sf0 C145.1
  have C150 := CHr.trans C145 c149
  obtain ⟨fs, hr, hrun, hended, hWe⟩ := X147.leaveW hS (show _ ≤ T147.heap.size from (Nat.le_trans hk (Nat.le_trans Kq141.1 Kq147.1))) (v := some (.ref x_147)) (fun hq => by rw [Bd.returns] at hq; cases hq)
  refine ⟨_, _, pre0 _ ?_, hrun, hended, _, _, rfl, ?_, ?_, hWe.1, hWe.2.1, hWe.2.2.1, hWe.2.2.2.mono (by decide) (by decide)⟩
  · show SP pg ev below (s₁.setTop (mkF mi 0 #[.val (.ref g)] [])) _
    refine st101 _ ?_
    refine XS.dup X101.here hx rfl (hb hby dj40_3) rfl rfl ?_
    refine st108.trans ?_
    refine st112 _ ?_
    refine st120.trans ?_
    refine XS.aloadN X120.here hx rfl (hb hby dj40_12) rfl rfl ?_
    refine st124 _ ?_
    refine st127.trans ?_
    refine XS.aloadN X127.here hx rfl (hb hby dj40_19) rfl rfl ?_
    refine st135.trans ?_
    refine st141.trans ?_
    refine st147.trans ?_
    show SP pg ev below (T147.setTop (mkF mi 29 #[.val (.ref g)] [(.ref x_147)])) _
    jvm_step X147.here [X147.here.top, hx, (hb hby dj40_29), X147.method', Bd.returns, Value.isRef, FieldType.isReference]
    first | (intro acts; rw [hr _ acts rfl rfl rfl]) | rw [hr _ _ rfl rfl rfl]
    exact Steps.refl _
  · show Q_im1 Z g b tb cb v tv cv zc hE n0 _ T147.heap _
    exact ⟨x_147, r_147, rfl, N147, (((((((((Keep.refl hE []).ext E101).trans Kq108 (allS (Or.inr (Nat.le_of_eq q101.symm)) all0)).ext E112).trans Kq120 (allS (Or.inr (Nat.le_of_eq q101.symm)) (allS (Or.inr (Nat.le_trans E101.1 fr_t_108)) all0))).trans Kq127 (allS (Or.inr (Nat.le_of_eq q101.symm)) (allS (Or.inr (Nat.le_trans E101.1 fr_t_108)) all0))).trans Kq135 all0).trans Kq141 (allS (Or.inr (Nat.le_of_eq q101.symm)) (allS (Or.inr (Nat.le_trans E101.1 fr_t_108)) all0))).trans Kq147 all0), (Nat.le_trans (Nat.le_trans (Nat.le_trans (Nat.le_trans (Nat.le_trans (Nat.le_trans (Nat.le_trans E101.1 Kq108.1) E112.1) Kq120.1) Kq127.1) Kq135.1) Kq141.1) fr_x_147), (Nat.le_trans (Nat.le_trans (Nat.le_trans (Nat.le_trans (Nat.le_trans (Nat.le_trans (Nat.le_trans E101.1 Kq108.1) E112.1) Kq120.1) Kq127.1) Kq135.1) Kq141.1) fr_r_147), r147_0⟩
  · show CHr Z ELs sb.vm sb.heap T147.vm T147.heap
    rw [hh]
    exact CHr.trans C150 (CHv.at X147 hZ hEL C150.1)
theorem ef_im2 (mi : MethodId) (g : Addr) : entryFrame mi #[(.ref g)] 1 = mkF mi 0 #[.val (.ref g)] [] := rfl
def Q_im2 (Z : State) (g b tb : Addr) (cb : List Int32) (v tv : Addr) (cv : List Int32) (zc : Int32) (hE : Heap) (n0 : Nat) (vv : Option Value) (hh : Heap) (LL : List Loc) : Prop := ∃ x : Addr, ∃ t : Addr, (vv = some (.ref x)) ∧ (Fr n0 LL) ∧ (Keep hE hh []) ∧ (hE.size ≤ x) ∧ (hE.size ≤ t) ∧ (LStr Z hh x t (((([] : List Int32) ++ ([(106 : Int32), (97 : Int32), (118 : Int32), (97 : Int32), (58 : Int32), (109 : Int32), (111 : Int32), (100 : Int32), (117 : Int32), (108 : Int32), (101 : Int32), (47 : Int32)] : List Int32)) ++ cb) ++ ((([] : List Int32) ++ ([(33 : Int32)] : List Int32)) ++ cv)))
theorem rm_im2 (hw : HW a0 Z) (ws : List Cond) (g b tb : Addr) (cb : List Int32) (v tv : Addr) (cv : List Int32) (zc : Int32) (hE : Heap) (n0 : Nat) (O : Old Z n0 hE) (P0_ : Exa Z hE g c0_) (P1_ : Fld Z hE g c0_ "beanName" c4_ (.ref b)) (P2_ : LStr Z hE b tb cb) (P3_ : Fld Z hE g c0_ "viewName" c4_ (.ref v)) (P4_ : LStr Z hE v tv cv) (D0_ : Sta Z Z.heap c1_ c6_ "Z" (.int zc)) (hlb : cb.length = 2) (hlv : cv.length = 2) (hzc : ¬ (zc = (0 : Int32))) :
    MW la Z hE mn43 jc40 1 (some (.object c1_)) ws (rr 7 13 468 104) #[(.ref g)] (Q_im2 Z g b tb cb v tv cv zc hE n0) := by
  refine MetFree.of_bodySF (plainFor_of_name pn_com_example_beanloft_beanloft_naming_GlobalName) hisR ?_
  intro pg ev sb mi gs below me cd s₁ Bd hml0 hPt hKt
  obtain ⟨rfl, hZ, hh, hH⟩ := hPt
  have hx := Bd.exec
  have hby := Bd.bytes
  have hml : cd.maxLocals = 1 := hml0
  have hown : sb.vm.findClass c0_ = some mi.cls := findClass_of_methodNamed Bd.named
  have X0 : Stand pg la ev (rr 7 13 468 104) (sb.setVm sb.vm) mi #[(.ref g)] below me cd s₁ [] 0 0 := Stand.of_body Bd
  have eE : s₁.heap = hE := by rw [← hh, Bd.state]; rfl
  have N0 := Fr.nil n0
  have pre0 : ∀ tt, SP pg ev below (s₁.setTop (mkF mi 0 #[.val (.ref g)] [])) tt → SP pg ev below (s₁.setTop (entryFrame mi #[(.ref g)] 1)) tt := fun tt kk => castTop (ef_im2 mi g) kk
  have hS : sb.Since sb.vm 0 := (State.WarmedH.refl sb).since 0
  have hk : 0 ≤ hE.size := Nat.zero_le _
  have hEL := own_EW hw
  have C0 := CHr.refl hH
  obtain ⟨T101, h101, X101, e101, E101, A101, D101, -, st101⟩ := newO X0 hx hZ hown (wd130 hw) (wd131 hw) (wd132 hw) eE (g := (mkF mi 0 #[.val (.ref g)] [])) rfl (hb hby dj40_0) (by decide) (by decide)
  obtain ⟨b101, q101⟩ : ∃ z, z = hE.size := ⟨_, rfl⟩
  rw [← q101] at A101 D101 st101
  have c102 := CHr.ext E101 C0.1
  have C103 := CHr.trans C0 c102
  have f104 : Fld Z h101 b101 c2_ "value" "[B" .null := D101 (Or.inl (wd145 hw)) (ty := (.array .byte)) (by decide)
  have f105 : Fld Z h101 b101 c2_ "coder" "B" (.int 0) := D101 (Or.inl (wd147 hw)) (ty := .byte) (by decide)
  have f106 : Fld Z h101 b101 c2_ "count" "I" (.int 0) := D101 (Or.inl (wd165 hw)) (ty := .int) (by decide)
  have O107 : Old Z n0 h101 := (O.ext E101)
  have g_b101 : n0 ≤ b101 := Nat.le_trans (Nat.le_trans (Nat.le_of_eq O.1.symm) O.2.1) (Nat.le_of_eq q101.symm)
  obtain ⟨v108, _, ⟨T108, L108, k108, n108⟩, -, X108, ⟨Lc108, hQ108, l108, y108, z108⟩, st108⟩ := X101.specialBack hx (y := mn3) rfl hown (mvT hZ (wd133 hw)) (mvT hZ (wd134 hw)) (mvT hZ (wd135 hw)) (by decide) (backOf (W := 1) (rm_sbin la Z a0 hw [] b101 zc h101 n0 O107 A101 f104 f105 f106 D0_ g_b101 (hzc : ¬ (zc = (0 : Int32)))) hZ (wd135 hw) (wd132 hw) (by decide) (by decide)) (g := (mkF mi 4 #[.val (.ref g)] [(.ref b101), (.ref b101)])) rfl (by rw [hml]; rfl) (Steps.refl _) (a := b101) (argsL := []) (rest := [(.ref b101)]) (lenOf pd_25 rfl) rfl (Nat.le_of_ble_eq_true rfl) (hb hby dj40_4) (fun _ _ => ⟨rfl, e101, (by decide : 1 + 1 ≤ _), (by decide : 4 + 16 ≤ _)⟩)
  dsimp only [Pt.U, Pt.locs, Pt.cells, Pt.slots] at X108 l108 y108 z108 st108 hQ108
  subst l108 y108 z108
  obtain ⟨t_108, rfl, Nq108, Kq108, fr_t_108, r108_0⟩ := hQ108
  have N108 := Fr.app N0 Nq108
  have c109 := CHr.keep Kq108 (sfS (Safe.exa hZ.alike A101 (by decide) (by decide)) sf0) C103.1
  have C110 := CHr.trans C103 c109
  have sf111 : Safe Z ELs _ T108.heap t_108 := (Safe.keep Kq108 (sfS (Safe.exa hZ.alike A101 (by decide) (by decide)) sf0) C103.1 (Safe.new fr_t_108))
  obtain ⟨a112, T112, h112, k112, d112, kc112, X112, e112, E112, hS, hk, hZ, hown, lE112, lC112, lV112, lA112, -, -, c112, -, hne112, st112⟩ := ldcCH X108 hx hZ hown (wd148 hw) (own_wS hw) rfl hS (Nat.le_trans hk (Nat.le_trans E101.1 Kq108.1)) hEL (by decide +kernel) C110.1 (vs := ([(106 : Int32), (97 : Int32), (118 : Int32), (97 : Int32), (58 : Int32), (109 : Int32), (111 : Int32), (100 : Int32), (117 : Int32), (108 : Int32), (101 : Int32), (47 : Int32)] : List Int32).map fun c => Value.int c.toInt8.toInt32) (z := Int32.ofNat ([(106 : Int32), (97 : Int32), (118 : Int32), (97 : Int32), (58 : Int32), (109 : Int32), (111 : Int32), (100 : Int32), (117 : Int32), (108 : Int32), (101 : Int32), (47 : Int32)] : List Int32).length) (by decide +kernel) (by decide) (by decide) (g := (mkF mi 7 #[.val (.ref g)] [(.ref b101)])) rfl (hb hby dj40_7) (n := 48) (by decide) (by decide) (by decide) (by decide)
  have C113 := CHr.trans C110 c112
  have sf116 : Safe Z ELs _ h112 t_108 := (c112.safe r108_0.ltt sf111)
  have nl115 := hne112 t_108 sf116
  have s114 : LStr Z h112 a112 d112 ([(106 : Int32), (97 : Int32), (118 : Int32), (97 : Int32), (58 : Int32), (109 : Int32), (111 : Int32), (100 : Int32), (117 : Int32), (108 : Int32), (101 : Int32), (47 : Int32)] : List Int32) := ⟨lE112, lV112, lC112, ⟨_, lA112⟩, (by decide), (by decide)⟩
  have O117 : Old Z n0 h112 := ((O107.keep Kq108 (allS g_b101 all0)).ext E112)
  have f118 : SBl Z h112 b101 t_108 16 ([] : List Int32) := (r108_0.ext E112)
  have g_t_108 : n0 ≤ t_108 := Nat.le_trans (Nat.le_trans (Nat.le_of_eq O107.1.symm) O107.2.1) fr_t_108
  have ne_b101_t_108 : b101 ≠ t_108 := Nat.ne_of_lt (Nat.lt_of_lt_of_le A101.lt (Nat.le_trans (Nat.le_refl _) fr_t_108))
  have f119 : Exa Z h112 b101 c3_ := ((A101.keep Kq108).ext E112)
  have ne_a112_b101 : a112 ≠ b101 := ne_exa lE112 f119 (by decide)
  have ne_b101_d112 : b101 ≠ d112 := Exa.neArv f119 lA112 (wd131 hw)
  obtain ⟨cq120, kq120, q120a, q120b, q120c⟩ := isOf hZ e112 f119
  obtain ⟨v120, _, ⟨T120, L120, k120, n120⟩, -, X120, ⟨Lc120, hQ120, l120, y120, z120⟩, st120⟩ := X112.virtualBack hx (y := mn14) (z := mn14) hown (mvT hZ (wd149 hw)) (mvT hZ (wd150 hw)) (notFace_of_selects (args := #[]) (mvT hZ (wd152 hw))) (mvT hZ (wd152 hw)) (mvT hZ (wd151 hw)) (by decide) (backOf (W := 0) (rm_sap_fit la Z a0 hw [] b101 a112 t_108 d112 16 ([] : List Int32) ([(106 : Int32), (97 : Int32), (118 : Int32), (97 : Int32), (58 : Int32), (109 : Int32), (111 : Int32), (100 : Int32), (117 : Int32), (108 : Int32), (101 : Int32), (47 : Int32)] : List Int32) zc h112 n0 O117 f118 s114 D0_ g_b101 g_t_108 ne_b101_t_108 ne_a112_b101 (Ne.symm ne_b101_d112) (by first | assumption | exact Nat.le_of_ble_eq_true rfl | rfl | decide | omega : ([] : List Int32).length + ([(106 : Int32), (97 : Int32), (118 : Int32), (97 : Int32), (58 : Int32), (109 : Int32), (111 : Int32), (100 : Int32), (117 : Int32), (108 : Int32), (101 : Int32), (47 : Int32)] : List Int32).length ≤ 16) (hzc : ¬ (zc = (0 : Int32)))) hZ (wd153 hw) (wd132 hw) (by decide) (by decide)) q120a q120c (g := (mkF mi 9 #[.val (.ref g)] [(.ref a112), (.ref b101)])) rfl (by rw [hml]; rfl) (Steps.refl _) (argsL := [(.ref a112)]) (rest := []) (lenOf pd_28 rfl) rfl (Nat.le_of_ble_eq_true rfl) (hb hby dj40_9) (fun _ _ => ⟨rfl, e112, (by decide : 4 + 0 ≤ _), (by decide : 72 + 0 ≤ _)⟩)
  dsimp only [Pt.U, Pt.locs, Pt.cells, Pt.slots] at X120 l120 y120 z120 st120 hQ120
  subst l120 y120 z120
  obtain ⟨rfl, Nq120, Kq120, r120_0⟩ := hQ120
  have N120 := Fr.app N108 Nq120
  have c121 := CHr.keep Kq120 (sfS (Safe.exa hZ.alike f119 (by decide) (by decide)) (sfS sf116 sf0)) C113.1
  have C122 := CHr.trans C113 c121
  have ne_g_b101 : g ≠ b101 := Nat.ne_of_lt (Nat.lt_of_lt_of_le P0_.lt (Nat.le_trans (Nat.le_refl _) (Nat.le_of_eq q101.symm)))
  have ne_g_t_108 : g ≠ t_108 := Nat.ne_of_lt (Nat.lt_of_lt_of_le P0_.lt (Nat.le_trans E101.1 fr_t_108))
  have f123 : Fld Z T120.heap g c0_ "beanName" c4_ (.ref b) := ((((P1_.ext E101).keep Kq108 (ninS ne_g_b101 nin0)).ext E112).keep Kq120 (ninS ne_g_b101 (ninS ne_g_t_108 nin0)))
  obtain ⟨T124, X124, e124, st124⟩ := getF X120 hx hZ hown (host := "") (Or.inl (wd121 hw)) Via.refl rfl f123 (g := (mkF mi 13 #[.val (.ref g)] [(.ref g), (.ref b101)])) rfl rfl (hb hby dj40_13)
  have O125 : Old Z n0 T120.heap := (O117.keep Kq120 (allS g_b101 (allS g_t_108 all0)))
  have ne_b_b101 : b ≠ b101 := Nat.ne_of_lt (Nat.lt_of_lt_of_le P2_.lt (Nat.le_trans (Nat.le_refl _) (Nat.le_of_eq q101.symm)))
  have ne_tb_b101 : tb ≠ b101 := Nat.ne_of_lt (Nat.lt_of_lt_of_le P2_.ltt (Nat.le_trans (Nat.le_refl _) (Nat.le_of_eq q101.symm)))
  have ne_b_t_108 : b ≠ t_108 := Nat.ne_of_lt (Nat.lt_of_lt_of_le P2_.lt (Nat.le_trans E101.1 fr_t_108))
  have ne_tb_t_108 : tb ≠ t_108 := Nat.ne_of_lt (Nat.lt_of_lt_of_le P2_.ltt (Nat.le_trans E101.1 fr_t_108))
  have f126 : LStr Z T120.heap b tb cb := ((((P2_.ext E101).keep Kq108 (ninS ne_b_b101 nin0) (ninS ne_tb_b101 nin0)).ext E112).keep Kq120 (ninS ne_b_b101 (ninS ne_b_t_108 nin0)) (ninS ne_tb_b101 (ninS ne_tb_t_108 nin0)))
  have f128 : Exa Z T120.heap b101 c3_ := (f119.keep Kq120)
  obtain ⟨cq127, kq127, q127a, q127b, q127c⟩ := isOf hZ e124 f128
  obtain ⟨v127, _, ⟨T127, L127, k127, n127⟩, -, X127, ⟨Lc127, hQ127, l127, y127, z127⟩, st127⟩ := X124.virtualBack hx (y := mn14) (z := mn14) hown (mvT hZ (wd149 hw)) (mvT hZ (wd150 hw)) (notFace_of_selects (args := #[]) (mvT hZ (wd152 hw))) (mvT hZ (wd152 hw)) (mvT hZ (wd151 hw)) (by decide) (backOf (W := 0) (rm_sap_fit la Z a0 hw [] b101 b t_108 tb 16 (([] : List Int32) ++ ([(106 : Int32), (97 : Int32), (118 : Int32), (97 : Int32), (58 : Int32), (109 : Int32), (111 : Int32), (100 : Int32), (117 : Int32), (108 : Int32), (101 : Int32), (47 : Int32)] : List Int32)) cb zc T120.heap n0 O125 r120_0 f126 D0_ g_b101 g_t_108 ne_b101_t_108 ne_b_b101 ne_tb_b101 ((by simp only [List.length_append, List.length_cons, List.length_nil]; omega) : (([] : List Int32) ++ ([(106 : Int32), (97 : Int32), (118 : Int32), (97 : Int32), (58 : Int32), (109 : Int32), (111 : Int32), (100 : Int32), (117 : Int32), (108 : Int32), (101 : Int32), (47 : Int32)] : List Int32)).length + cb.length ≤ 16) (hzc : ¬ (zc = (0 : Int32)))) hZ (wd153 hw) (wd132 hw) (by decide) (by decide)) q127a q127c (g := (mkF mi 16 #[.val (.ref g)] [(.ref b), (.ref b101)])) rfl (by rw [hml]; rfl) (Steps.refl _) (argsL := [(.ref b)]) (rest := []) (lenOf pd_28 rfl) rfl (Nat.le_of_ble_eq_true rfl) (hb hby dj40_16) (fun _ _ => ⟨rfl, e124, (by decide : 4 + 0 ≤ _), (by decide : 72 + 0 ≤ _)⟩)
  dsimp only [Pt.U, Pt.locs, Pt.cells, Pt.slots] at X127 l127 y127 z127 st127 hQ127
  subst l127 y127 z127
  obtain ⟨rfl, Nq127, Kq127, r127_0⟩ := hQ127
  have N127 := Fr.app N120 Nq127
  have sf130 : Safe Z ELs _ T120.heap t_108 := (c121.safe (Nat.lt_of_lt_of_le r108_0.ltt E112.1) sf116)
  have c129 := CHr.keep Kq127 (sfS (Safe.exa hZ.alike f128 (by decide) (by decide)) (sfS sf130 sf0)) C122.1
  have C131 := CHr.trans C122 c129
  have O132 : Old Z n0 T127.heap := (O125.keep Kq127 (allS g_b101 (allS g_t_108 all0)))
  have f133 : Fld Z T127.heap g c0_ "viewName" c4_ (.ref v) := (((((P3_.ext E101).keep Kq108 (ninS ne_g_b101 nin0)).ext E112).keep Kq120 (ninS ne_g_b101 (ninS ne_g_t_108 nin0))).keep Kq127 (ninS ne_g_b101 (ninS ne_g_t_108 nin0)))
  have ne_v_b101 : v ≠ b101 := Nat.ne_of_lt (Nat.lt_of_lt_of_le P4_.lt (Nat.le_trans (Nat.le_refl _) (Nat.le_of_eq q101.symm)))
  have ne_tv_b101 : tv ≠ b101 := Nat.ne_of_lt (Nat.lt_of_lt_of_le P4_.ltt (Nat.le_trans (Nat.le_refl _) (Nat.le_of_eq q101.symm)))
  have ne_v_t_108 : v ≠ t_108 := Nat.ne_of_lt (Nat.lt_of_lt_of_le P4_.lt (Nat.le_trans E101.1 fr_t_108))
  have ne_tv_t_108 : tv ≠ t_108 := Nat.ne_of_lt (Nat.lt_of_lt_of_le P4_.ltt (Nat.le_trans E101.1 fr_t_108))
  have f134 : LStr Z T127.heap v tv cv := (((((P4_.ext E101).keep Kq108 (ninS ne_v_b101 nin0) (ninS ne_tv_b101 nin0)).ext E112).keep Kq120 (ninS ne_v_b101 (ninS ne_v_t_108 nin0)) (ninS ne_tv_b101 (ninS ne_tv_t_108 nin0))).keep Kq127 (ninS ne_v_b101 (ninS ne_v_t_108 nin0)) (ninS ne_tv_b101 (ninS ne_tv_t_108 nin0)))
  have f136 : Exa Z T127.heap g c0_ := (((((P0_.ext E101).keep Kq108).ext E112).keep Kq120).keep Kq127)
  obtain ⟨cq135, qq135, qq135'⟩ := f136.cell
  obtain ⟨v135, _, ⟨T135, L135, k135, n135⟩, -, X135, s135, gr135, ⟨Lc135, hQ135, l135, y135, z135, c135⟩, st135⟩ := X127.privateBackS hx (y := mn42) hown (mvT hZ (wd191 hw)) (mvT hZ (wd192 hw)) (own_selP (mvT (args := #[]) hZ (wd128 hw)) rfl (Cond.privateMethod_at (mvP hZ (wd193 hw) (args := #[]))) (mvT hZ (wd192 hw)) (by decide)) (Cond.privateMethod_at (mvP hZ (wd193 hw) (args := #[]))) (mvT hZ (wd194 hw)) (by decide) (backOfSH (W := 1) (rm_vs1 la Z a0 hw [] g v tv cv zc T127.heap n0 O132 f133 f134 D0_ (hlv : cv.length = 2) (hzc : ¬ (zc = (0 : Int32)))) hZ (wd194 hw) (wd50 hw) (by decide) (by decide) hEL C131.1) (g := (mkF mi 20 #[.val (.ref g)] [(.ref g), (.ref b101)])) rfl (by rw [hml]; rfl) (Steps.refl _) (a := g) qq135 qq135' (argsL := []) (rest := [(.ref b101)]) (lenOf pd_22 rfl) rfl (Nat.le_of_ble_eq_true rfl) (hb hby dj40_20) (fun _ _ => ⟨rfl, rfl, (by decide : 4 + 6 ≤ _), (by decide : 72 + 152 ≤ _)⟩)
  dsimp only [Pt.U, Pt.locs, Pt.cells, Pt.slots] at X135 s135 gr135 l135 y135 z135 c135 st135 hQ135
  subst l135 y135 z135
  obtain ⟨X135, hS, hZ, hown⟩ := rebS hS (show _ ≤ T127.heap.size from (Nat.le_trans hk (Nat.le_trans Kq120.1 Kq127.1))) X135 s135 gr135 hZ hown
  have hk : T135.heap.size ≤ T135.heap.size := Nat.le_refl _
  obtain ⟨x_135, t_135, rfl, Nq135, Kq135, fr_x_135, fr_t_135, r135_0⟩ := hQ135
  have N135 := Fr.app N127 Nq135
  have C137 := CHr.trans C131 c135
  obtain ⟨sE138, sV138, sC138, ⟨kb138, sK138⟩, sb138, sl138⟩ := id r135_0
  have O139 : Old Z n0 T135.heap := (O132.keep Kq135 all0)
  have f140 : SBl Z T135.heap b101 t_108 16 ((([] : List Int32) ++ ([(106 : Int32), (97 : Int32), (118 : Int32), (97 : Int32), (58 : Int32), (109 : Int32), (111 : Int32), (100 : Int32), (117 : Int32), (108 : Int32), (101 : Int32), (47 : Int32)] : List Int32)) ++ cb) := (r127_0.keep Kq135 nin0 nin0)
  have ne_b101_x_135 : b101 ≠ x_135 := Nat.ne_of_lt (Nat.lt_of_lt_of_le A101.lt (Nat.le_trans (Nat.le_trans (Nat.le_trans (Nat.le_trans Kq108.1 E112.1) Kq120.1) Kq127.1) fr_x_135))
  have ne_b101_t_135 : b101 ≠ t_135 := Nat.ne_of_lt (Nat.lt_of_lt_of_le A101.lt (Nat.le_trans (Nat.le_trans (Nat.le_trans (Nat.le_trans Kq108.1 E112.1) Kq120.1) Kq127.1) fr_t_135))
  have f142 : Exa Z T135.heap b101 c3_ := ((f128.keep Kq127).keep Kq135)
  obtain ⟨cq141, kq141, q141a, q141b, q141c⟩ := isOf hZ rfl f142
  obtain ⟨v141, _, ⟨T141, L141, k141, n141⟩, -, X141, ⟨Lc141, hQ141, l141, y141, z141⟩, st141⟩ := X135.virtualBack hx (y := mn14) (z := mn14) hown (mvT hZ (wd149 hw)) (mvT hZ (wd150 hw)) (notFace_of_selects (args := #[]) (mvT hZ (wd152 hw))) (mvT hZ (wd152 hw)) (mvT hZ (wd151 hw)) (by decide) (backOf (W := 0) (rm_sap_grow la Z a0 hw [] b101 x_135 t_108 t_135 16 ((([] : List Int32) ++ ([(106 : Int32), (97 : Int32), (118 : Int32), (97 : Int32), (58 : Int32), (109 : Int32), (111 : Int32), (100 : Int32), (117 : Int32), (108 : Int32), (101 : Int32), (47 : Int32)] : List Int32)) ++ cb) ((([] : List Int32) ++ ([(33 : Int32)] : List Int32)) ++ cv) zc T135.heap n0 O139 f140 r135_0 D0_ g_b101 ne_b101_t_108 (Ne.symm ne_b101_x_135) (Ne.symm ne_b101_t_135) ((by simp only [List.length_append, List.length_cons, List.length_nil]; omega) : 16 < ((([] : List Int32) ++ ([(106 : Int32), (97 : Int32), (118 : Int32), (97 : Int32), (58 : Int32), (109 : Int32), (111 : Int32), (100 : Int32), (117 : Int32), (108 : Int32), (101 : Int32), (47 : Int32)] : List Int32)) ++ cb).length + ((([] : List Int32) ++ ([(33 : Int32)] : List Int32)) ++ cv).length) ((by simp only [List.length_append, List.length_cons, List.length_nil]; omega) : ((([] : List Int32) ++ ([(106 : Int32), (97 : Int32), (118 : Int32), (97 : Int32), (58 : Int32), (109 : Int32), (111 : Int32), (100 : Int32), (117 : Int32), (108 : Int32), (101 : Int32), (47 : Int32)] : List Int32)) ++ cb).length + ((([] : List Int32) ++ ([(33 : Int32)] : List Int32)) ++ cv).length ≤ 120) ((by decide) : 16 ≤ 50) (hzc : ¬ (zc = (0 : Int32)))) hZ (wd153 hw) (wd132 hw) (by decide) (by decide)) q141a q141c (g := (mkF mi 23 #[.val (.ref g)] [(.ref x_135), (.ref b101)])) rfl (by rw [hml]; rfl) (Steps.refl _) (argsL := [(.ref x_135)]) (rest := []) (lenOf pd_28 rfl) rfl (Nat.le_of_ble_eq_true rfl) (hb hby dj40_23) (fun _ _ => ⟨rfl, rfl, (by decide : 10 + 1 ≤ _), (by decide : 224 + 120 ≤ _)⟩)
  dsimp only [Pt.U, Pt.locs, Pt.cells, Pt.slots] at X141 l141 y141 z141 st141 hQ141
  subst l141 y141 z141
  obtain ⟨r_141, rfl, Nq141, Kq141, fr_r_141, r141_0⟩ := hQ141
  have N141 := Fr.app N135 Nq141
  have c143 := CHr.keep Kq141 (sfS (Safe.exa hZ.alike f142 (by decide) (by decide)) sf0) C137.1
  have C144 := CHr.trans C137 c143
  have sf145 : Safe Z ELs _ T141.heap r_141 := (Safe.keep Kq141 (sfS (Safe.exa hZ.alike f142 (by decide) (by decide)) sf0) C137.1 (Safe.new fr_r_141))
  have O146 : Old Z n0 T141.heap := (O139.keep Kq141 (allS g_b101 all0))
  have f148 : Exa Z T141.heap b101 c3_ := (f142.keep Kq141)
  obtain ⟨cq147, kq147, q147a, q147b, q147c⟩ := isOf hZ rfl f148
  obtain ⟨v147, _, ⟨T147, L147, k147, n147⟩, -, X147, ⟨Lc147, hQ147, l147, y147, z147⟩, st147⟩ := X141.virtualBack hx (y := mn24) (z := mn24) hown (mvT hZ (wd196 hw)) (mvT hZ (wd197 hw)) (notFace_of_selects (args := #[]) (mvT hZ (wd199 hw))) (mvT hZ (wd199 hw)) (mvT hZ (wd198 hw)) (by decide) (backOf (W := 0) (rm_sbt_cut la Z a0 hw [] b101 r_141 (ncap 16 (((([] : List Int32) ++ ([(106 : Int32), (97 : Int32), (118 : Int32), (97 : Int32), (58 : Int32), (109 : Int32), (111 : Int32), (100 : Int32), (117 : Int32), (108 : Int32), (101 : Int32), (47 : Int32)] : List Int32)) ++ cb).length + ((([] : List Int32) ++ ([(33 : Int32)] : List Int32)) ++ cv).length)) (((([] : List Int32) ++ ([(106 : Int32), (97 : Int32), (118 : Int32), (97 : Int32), (58 : Int32), (109 : Int32), (111 : Int32), (100 : Int32), (117 : Int32), (108 : Int32), (101 : Int32), (47 : Int32)] : List Int32)) ++ cb) ++ ((([] : List Int32) ++ ([(33 : Int32)] : List Int32)) ++ cv)) zc T141.heap n0 O146 r141_0 D0_ ((by simp only [List.length_append, List.length_cons, List.length_nil, hlb, hlv]; decide) : (((([] : List Int32) ++ ([(106 : Int32), (97 : Int32), (118 : Int32), (97 : Int32), (58 : Int32), (109 : Int32), (111 : Int32), (100 : Int32), (117 : Int32), (108 : Int32), (101 : Int32), (47 : Int32)] : List Int32)) ++ cb) ++ ((([] : List Int32) ++ ([(33 : Int32)] : List Int32)) ++ cv)).length < (ncap 16 (((([] : List Int32) ++ ([(106 : Int32), (97 : Int32), (118 : Int32), (97 : Int32), (58 : Int32), (109 : Int32), (111 : Int32), (100 : Int32), (117 : Int32), (108 : Int32), (101 : Int32), (47 : Int32)] : List Int32)) ++ cb).length + ((([] : List Int32) ++ ([(33 : Int32)] : List Int32)) ++ cv).length))) (hzc : ¬ (zc = (0 : Int32)))) hZ (wd200 hw) (wd132 hw) (by decide) (by decide)) q147a q147c (g := (mkF mi 26 #[.val (.ref g)] [(.ref b101)])) rfl (by rw [hml]; rfl) (Steps.refl _) (argsL := []) (rest := []) (lenOf pd_22 rfl) rfl (Nat.le_of_ble_eq_true rfl) (hb hby dj40_26) (fun _ _ => ⟨rfl, rfl, (by decide : 11 + 2 ≤ _), (by decide : 344 + 124 ≤ _)⟩)
  dsimp only [Pt.U, Pt.locs, Pt.cells, Pt.slots] at X147 l147 y147 z147 st147 hQ147
  subst l147 y147 z147
  obtain ⟨x_147, r_147, rfl, Nq147, Kq147, fr_x_147, fr_r_147, r147_0⟩ := hQ147
  have N147 := Fr.app N141 Nq147
  have c149 := CHr.keep Kq147 sf0 C144.1
  have C150 := CHr.trans C144 c149
  obtain ⟨fs, hr, hrun, hended, hWe⟩ := X147.leaveW hS (show _ ≤ T147.heap.size from (Nat.le_trans hk (Nat.le_trans Kq141.1 Kq147.1))) (v := some (.ref x_147)) (fun hq => by rw [Bd.returns] at hq; cases hq)
  refine ⟨_, _, pre0 _ ?_, hrun, hended, _, _, rfl, ?_, ?_, hWe.1, hWe.2.1, hWe.2.2.1, hWe.2.2.2.mono (by decide) (by decide)⟩
  · show SP pg ev below (s₁.setTop (mkF mi 0 #[.val (.ref g)] [])) _
    refine st101 _ ?_
    refine XS.dup X101.here hx rfl (hb hby dj40_3) rfl rfl ?_
    refine st108.trans ?_
    refine st112 _ ?_
    refine st120.trans ?_
    refine XS.aloadN X120.here hx rfl (hb hby dj40_12) rfl rfl ?_
    refine st124 _ ?_
    refine st127.trans ?_
    refine XS.aloadN X127.here hx rfl (hb hby dj40_19) rfl rfl ?_
    refine st135.trans ?_
    refine st141.trans ?_
    refine st147.trans ?_
    show SP pg ev below (T147.setTop (mkF mi 29 #[.val (.ref g)] [(.ref x_147)])) _
    jvm_step X147.here [X147.here.top, hx, (hb hby dj40_29), X147.method', Bd.returns, Value.isRef, FieldType.isReference]
    first | (intro acts; rw [hr _ acts rfl rfl rfl]) | rw [hr _ _ rfl rfl rfl]
    exact Steps.refl _
  · show Q_im2 Z g b tb cb v tv cv zc hE n0 _ T147.heap _
    exact ⟨x_147, r_147, rfl, N147, (((((((((Keep.refl hE []).ext E101).trans Kq108 (allS (Or.inr (Nat.le_of_eq q101.symm)) all0)).ext E112).trans Kq120 (allS (Or.inr (Nat.le_of_eq q101.symm)) (allS (Or.inr (Nat.le_trans E101.1 fr_t_108)) all0))).trans Kq127 (allS (Or.inr (Nat.le_of_eq q101.symm)) (allS (Or.inr (Nat.le_trans E101.1 fr_t_108)) all0))).trans Kq135 all0).trans Kq141 (allS (Or.inr (Nat.le_of_eq q101.symm)) all0)).trans Kq147 all0), (Nat.le_trans (Nat.le_trans (Nat.le_trans (Nat.le_trans (Nat.le_trans (Nat.le_trans (Nat.le_trans E101.1 Kq108.1) E112.1) Kq120.1) Kq127.1) Kq135.1) Kq141.1) fr_x_147), (Nat.le_trans (Nat.le_trans (Nat.le_trans (Nat.le_trans (Nat.le_trans (Nat.le_trans (Nat.le_trans E101.1 Kq108.1) E112.1) Kq120.1) Kq127.1) Kq135.1) Kq141.1) fr_r_147), r147_0⟩
  · show CHr Z ELs sb.vm sb.heap T147.vm T147.heap
    rw [hh]
    exact CHr.trans C150 (CHv.at X147 hZ hEL C150.1)
theorem own_bd0 : ∀ c ∈ ([] : List Int32), ¬ c < 0 ∧ ¬ (255 : Int32) < c := fun _ h => nomatch h
theorem own_bdC {a : Int32} {l : List Int32} (h : ¬ a < 0 ∧ ¬ (255 : Int32) < a) (t : ∀ c ∈ l, ¬ c < 0 ∧ ¬ (255 : Int32) < c) : ∀ c ∈ a :: l, ¬ c < 0 ∧ ¬ (255 : Int32) < c := fun c hc => by
  rcases List.mem_cons.mp hc with rfl | q
  · exact h
  · exact t c q
theorem own_a1 {p : Int32 → Prop} {a : Int32} (h : p a) : ∀ c ∈ ([a] : List Int32), p c := fun c hc => by cases List.mem_singleton.mp hc; exact h
theorem own_a2 {p : Int32 → Prop} {a b : Int32} (h : p a) (k : p b) : ∀ c ∈ ([a, b] : List Int32), p c := fun c hc => by
  rcases List.mem_cons.mp hc with rfl | q
  · exact h
  · exact own_a1 k c q
theorem pd_29 : parseMethodDescriptor "(C)Ljava/lang/String;" = some ⟨[.char], some (.object "java/lang/String")⟩ := by decide +kernel
theorem sw_app {la : Launch} {Z : State} {a0 : Array Value} (hw : HW a0 Z) (c8 f12 zc : Int32) (s0 s1 s2 s3 s4 s5 s6 s7 s9 s10 s11 s13 s14 s16 s17 s18 s19 : Slot) (hE : Heap) (n0 : Nat) {pg : Program} {ev : Env} {sb : State} {mi : MethodId} {aa : Array Value} {below : List Frame} {me : Method} {cd : Code} {s₁ : State} {ls : List Loc} (X0 : Stand pg la ev room_1 sb mi aa below me cd s₁ ls 6 40) (hx : pg.tables.exec = Jvm.exec) (hby : cd.code = code) (hml : cd.maxLocals = 20) (hZ : Z.Warmed39 sb.vm) (hown : sb.vm.findClass c5_ = some mi.cls) (eE : s₁.heap = hE) (N0 : Fr n0 ls) (O : Old Z n0 hE) (D0_ : Sta Z Z.heap c1_ c6_ "Z" (.int zc)) (hn8 : ¬ (c8 < (0 : Int32))) (hbb8 : ¬ ((255 : Int32) < c8)) (hzc : ¬ (zc = (0 : Int32))) :
    ∃ (T' : State) (h' : Heap) (L' : List Loc) (va : Value), Stand pg la ev room_1 sb mi aa below me cd T' L' (8) (45) ∧ T'.heap = h' ∧ Fr n0 L' ∧ Keep hE h' [] ∧ OStr Z h' va ([c8] : List Int32) ∧ ∀ tt, SP pg ev below (T'.setTop (mkF mi 176 #[s0, s1, s2, s3, s4, s5, s6, s7, .val (.int c8), s9, s10, s11, .val (.int f12), s13, s14, .val va, s16, s17, s18, s19] [])) tt → SP pg ev below (s₁.setTop (mkF mi 160 #[s0, s1, s2, s3, s4, s5, s6, s7, .val (.int c8), s9, s10, s11, .val (.int f12), s13, s14, .unset, s16, s17, s18, s19] [])) tt := by
  have pre0 : ∀ tt, SP pg ev below (s₁.setTop (mkF mi 160 #[s0, s1, s2, s3, s4, s5, s6, s7, .val (.int c8), s9, s10, s11, .val (.int f12), s13, s14, .unset, s16, s17, s18, s19] [])) tt → SP pg ev below (s₁.setTop (mkF mi 160 #[s0, s1, s2, s3, s4, s5, s6, s7, .val (.int c8), s9, s10, s11, .val (.int f12), s13, s14, .unset, s16, s17, s18, s19] [])) tt := fun tt kk => kk
  have pre102 : ∀ tt, SP pg ev below (s₁.setTop (mkF mi 162 #[s0, s1, s2, s3, s4, s5, s6, s7, .val (.int c8), s9, s10, s11, .val (.int f12), s13, s14, .unset, s16, s17, s18, s19] [(.int f12)])) tt → SP pg ev below (s₁.setTop (mkF mi 160 #[s0, s1, s2, s3, s4, s5, s6, s7, .val (.int c8), s9, s10, s11, .val (.int f12), s13, s14, .unset, s16, s17, s18, s19] [])) tt := fun tt kk => pre0 _ (by
    show SP pg ev below (s₁.setTop (mkF mi 160 #[s0, s1, s2, s3, s4, s5, s6, s7, .val (.int c8), s9, s10, s11, .val (.int f12), s13, s14, .unset, s16, s17, s18, s19] [])) _
    refine XS.iload X0.here hx rfl (hb hby at_160) rfl ?_
    exact kk)
  by_cases hc101 : f12 = (0 : Int32)
  · have pre103 : ∀ tt, SP pg ev below (s₁.setTop (mkF mi 176 #[s0, s1, s2, s3, s4, s5, s6, s7, .val (.int c8), s9, s10, s11, .val (.int f12), s13, s14, .val .null, s16, s17, s18, s19] [])) tt → SP pg ev below (s₁.setTop (mkF mi 160 #[s0, s1, s2, s3, s4, s5, s6, s7, .val (.int c8), s9, s10, s11, .val (.int f12), s13, s14, .unset, s16, s17, s18, s19] [])) tt := fun tt kk => pre102 _ (by
      show SP pg ev below (s₁.setTop (mkF mi 162 #[s0, s1, s2, s3, s4, s5, s6, s7, .val (.int c8), s9, s10, s11, .val (.int f12), s13, s14, .unset, s16, s17, s18, s19] [(.int f12)])) _
      refine XS.ifYes X0.here hx rfl (pc0 := 162) (pc' := 173) rfl (hb hby at_162) rfl ((if0 _ _).trans (teq hc101).1) (by decide) (by decide) ?_
      refine XS.aconstNull X0.here hx rfl (hb hby at_173) ?_
      refine XS.astore X0.here hx rfl (hb hby at_174) rfl rfl (l' := #[s0, s1, s2, s3, s4, s5, s6, s7, .val (.int c8), s9, s10, s11, .val (.int f12), s13, s14, .val .null, s16, s17, s18, s19]) rfl ?_
      exact kk)
    exact ⟨_, _, _, .null, X0.more (by decide) (by decide), eE, N0, (Keep.refl hE []), Or.inl rfl, fun tt kk => pre103 tt kk⟩
  · obtain ⟨v104, _, ⟨T104, L104, k104, n104⟩, -, X104, ⟨Lc104, hQ104, l104, y104, z104⟩, st104⟩ := Jvm.LawKit.callS X0 hx (y := mn29) hown (mvT hZ (wd34 hw)) (mvT hZ (wd35 hw)) (mvT hZ (wd6 hw)) (mvT hZ (wd36 hw)) (by decide) (backOf (W := 0) (rm_vof la Z a0 hw [] c8 zc hE n0 O D0_ (hbb8 : ¬ ((255 : Int32) < c8)) (hn8 : ¬ (c8 < (0 : Int32))) (hzc : ¬ (zc = (0 : Int32)))) hZ (wd36 hw) (wd6 hw) (by decide) (by decide)) (g := (mkF mi 167 #[s0, s1, s2, s3, s4, s5, s6, s7, .val (.int c8), s9, s10, s11, .val (.int f12), s13, s14, .unset, s16, s17, s18, s19] [(.int c8)])) rfl (by rw [hml]; rfl) (argsL := [(.int c8)]) (rest := []) (lenOf pd_29 rfl) rfl (Nat.le_of_ble_eq_true rfl) (hb hby at_167) (fun _ _ => ⟨rfl, eE, (by decide : 6 + 2 ≤ _), (by decide : 40 + 5 ≤ _)⟩)
    dsimp only [Pt.U, Pt.locs, Pt.cells, Pt.slots] at X104 l104 y104 z104 st104 hQ104
    subst l104 y104 z104
    obtain ⟨x_104, t_104, rfl, Nq104, Kq104, fr_x_104, fr_t_104, r104_0⟩ := hQ104
    have N104 := Fr.app N0 Nq104
    have pre105 : ∀ tt, SP pg ev below (T104.setTop (mkF mi 176 #[s0, s1, s2, s3, s4, s5, s6, s7, .val (.int c8), s9, s10, s11, .val (.int f12), s13, s14, .val (.ref x_104), s16, s17, s18, s19] [])) tt → SP pg ev below (s₁.setTop (mkF mi 160 #[s0, s1, s2, s3, s4, s5, s6, s7, .val (.int c8), s9, s10, s11, .val (.int f12), s13, s14, .unset, s16, s17, s18, s19] [])) tt := fun tt kk => pre102 _ (by
      show SP pg ev below (s₁.setTop (mkF mi 162 #[s0, s1, s2, s3, s4, s5, s6, s7, .val (.int c8), s9, s10, s11, .val (.int f12), s13, s14, .unset, s16, s17, s18, s19] [(.int f12)])) _
      refine XS.ifNo X0.here hx rfl (hb hby at_162) rfl ((if0 _ _).trans (feq hc101).1) ?_
      refine XS.iload X0.here hx rfl (hb hby at_165) rfl ?_
      refine st104 _ ?_
      refine XS.goto X104.here hx rfl (pc0 := 170) (pc' := 174) rfl (hb hby at_170) (by decide) (by decide) ?_
      refine XS.astore X104.here hx rfl (hb hby at_174) rfl rfl (l' := #[s0, s1, s2, s3, s4, s5, s6, s7, .val (.int c8), s9, s10, s11, .val (.int f12), s13, s14, .val (.ref x_104), s16, s17, s18, s19]) rfl ?_
      exact kk)
    exact ⟨_, _, _, (.ref x_104), X104, rfl, N104, ((Keep.refl hE []).trans Kq104 all0), Or.inr ⟨x_104, t_104, rfl, r104_0⟩, fun tt kk => pre105 tt kk⟩
theorem sw_fill16 {la : Launch} {Z : State} {a0 : Array Value} (hw : HW a0 Z) (c4 c6 c7 : Int32) (s0 s1 s2 s3 s5 s8 s9 s10 s11 s12 s13 s14 s15 s16 s17 s18 : Slot) (hE : Heap) (n0 : Nat) {pg : Program} {ev : Env} {sb : State} {mi : MethodId} {aa : Array Value} {below : List Frame} {me : Method} {cd : Code} {s₁ : State} {ls : List Loc} (X0 : Stand pg la ev room_1 sb mi aa below me cd s₁ ls 70 10000) (hx : pg.tables.exec = Jvm.exec) (hby : cd.code = code) (hml : cd.maxLocals = 20) (hZ : Z.Warmed39 sb.vm) (hown : sb.vm.findClass c5_ = some mi.cls) (eE : s₁.heap = hE) (N0 : Fr n0 ls) (O : Old Z n0 hE) (hb4 : ¬ (c4 < (0 : Int32)) ∧ ¬ ((255 : Int32) < c4)) (hb6 : ¬ (c6 < (0 : Int32)) ∧ ¬ ((255 : Int32) < c6)) (hb7 : ¬ (c7 < (0 : Int32)) ∧ ¬ ((255 : Int32) < c7)) :
    ∃ (T' : State) (h' : Heap) (L' : List Loc) (b : Addr) (kb : ClassId), Stand pg la ev room_1 sb mi aa below me cd T' L' (71) (10016) ∧ T'.heap = h' ∧ Fr n0 L' ∧ Keep hE h' [] ∧ hE.size ≤ b ∧ Arv Z h' b kb .char (16 : Int32) [(.int 106), (.int 97), (.int 118), (.int 97), (.int 58), (.int 109), (.int 111), (.int 100), (.int 117), (.int 108), (.int 101), (.int 47), (.int c4), (.int 33), (.int c6), (.int c7)] (.int 0) ∧ ∀ tt, SP pg ev below (T'.setTop (mkF mi 591 #[s0, s1, s2, s3, .val (.int c4), s5, .val (.int c6), .val (.int c7), s8, s9, s10, s11, s12, s13, s14, s15, s16, s17, s18, .val (.ref b)] [])) tt → SP pg ev below (s₁.setTop (mkF mi 217 #[s0, s1, s2, s3, .val (.int c4), s5, .val (.int c6), .val (.int c7), s8, s9, s10, s11, s12, s13, s14, s15, s16, s17, s18, .unset] [])) tt := by
  have pre0 : ∀ tt, SP pg ev below (s₁.setTop (mkF mi 217 #[s0, s1, s2, s3, .val (.int c4), s5, .val (.int c6), .val (.int c7), s8, s9, s10, s11, s12, s13, s14, s15, s16, s17, s18, .unset] [])) tt → SP pg ev below (s₁.setTop (mkF mi 217 #[s0, s1, s2, s3, .val (.int c4), s5, .val (.int c6), .val (.int c7), s8, s9, s10, s11, s12, s13, s14, s15, s16, s17, s18, .unset] [])) tt := fun tt kk => kk
  obtain ⟨T101, h101, k101, X101, e101, E101, A101, st101⟩ := newP (aty := .char) X0 hx hZ (wd7 hw) eE (g := (mkF mi 219 #[s0, s1, s2, s3, .val (.int c4), s5, .val (.int c6), .val (.int c7), s8, s9, s10, s11, s12, s13, s14, s15, s16, s17, s18, .unset] [(.int 16)])) rfl (hb hby at_219) rfl (by decide) (cap := 16) (by decide) (by decide) (by decide) (by decide)
  obtain ⟨b101, q101⟩ : ∃ z, z = hE.size := ⟨_, rfl⟩
  rw [← q101] at A101 st101
  have f102 : Arv Z h101 b101 k101 .char (16 : Int32) [(.int 0), (.int 0), (.int 0), (.int 0), (.int 0), (.int 0), (.int 0), (.int 0), (.int 0), (.int 0), (.int 0), (.int 0), (.int 0), (.int 0), (.int 0), (.int 0)] (.int 0) := (Arv.new A101 (by decide)).pad (pad_rep [] (.int 0) 16)
  have g_b101 : n0 ≤ b101 := Nat.le_trans (Nat.le_trans (Nat.le_of_eq O.1.symm) O.2.1) (Nat.le_of_eq q101.symm)
  obtain ⟨T103, h103, L103, X103, e103, N103, Kq103, f103, st103⟩ := own_sc X101 hx hZ e101 f102 0 (c := (106 : Int32)) (j := (0 : Int32)) rfl rfl (by decide) (Nat.le_of_ble_eq_true rfl) N0 g_b101 (g := (mkF mi 225 #[s0, s1, s2, s3, .val (.int c4), s5, .val (.int c6), .val (.int c7), s8, s9, s10, s11, s12, s13, s14, s15, s16, s17, s18, .unset] [(.int 106), (.int 0), (.ref b101), (.ref b101)])) rfl rfl (hb hby at_225)
  obtain ⟨T104, h104, L104, X104, e104, N104, Kq104, f104, st104⟩ := own_sc X103 hx hZ e103 f103 1 (c := (97 : Int32)) (j := (1 : Int32)) rfl rfl (by decide) (Nat.le_of_ble_eq_true rfl) N103 g_b101 (g := (mkF mi 230 #[s0, s1, s2, s3, .val (.int c4), s5, .val (.int c6), .val (.int c7), s8, s9, s10, s11, s12, s13, s14, s15, s16, s17, s18, .unset] [(.int 97), (.int 1), (.ref b101), (.ref b101)])) rfl rfl (hb hby at_230)
  obtain ⟨T105, h105, L105, X105, e105, N105, Kq105, f105, st105⟩ := own_sc X104 hx hZ e104 f104 2 (c := (118 : Int32)) (j := (2 : Int32)) rfl rfl (by decide) (Nat.le_of_ble_eq_true rfl) N104 g_b101 (g := (mkF mi 235 #[s0, s1, s2, s3, .val (.int c4), s5, .val (.int c6), .val (.int c7), s8, s9, s10, s11, s12, s13, s14, s15, s16, s17, s18, .unset] [(.int 118), (.int 2), (.ref b101), (.ref b101)])) rfl rfl (hb hby at_235)
  obtain ⟨T106, h106, L106, X106, e106, N106, Kq106, f106, st106⟩ := own_sc X105 hx hZ e105 f105 3 (c := (97 : Int32)) (j := (3 : Int32)) rfl rfl (by decide) (Nat.le_of_ble_eq_true rfl) N105 g_b101 (g := (mkF mi 240 #[s0, s1, s2, s3, .val (.int c4), s5, .val (.int c6), .val (.int c7), s8, s9, s10, s11, s12, s13, s14, s15, s16, s17, s18, .unset] [(.int 97), (.int 3), (.ref b101), (.ref b101)])) rfl rfl (hb hby at_240)
  obtain ⟨T107, h107, L107, X107, e107, N107, Kq107, f107, st107⟩ := own_sc X106 hx hZ e106 f106 4 (c := (58 : Int32)) (j := (4 : Int32)) rfl rfl (by decide) (Nat.le_of_ble_eq_true rfl) N106 g_b101 (g := (mkF mi 245 #[s0, s1, s2, s3, .val (.int c4), s5, .val (.int c6), .val (.int c7), s8, s9, s10, s11, s12, s13, s14, s15, s16, s17, s18, .unset] [(.int 58), (.int 4), (.ref b101), (.ref b101)])) rfl rfl (hb hby at_245)
  obtain ⟨T108, h108, L108, X108, e108, N108, Kq108, f108, st108⟩ := own_sc X107 hx hZ e107 f107 5 (c := (109 : Int32)) (j := (5 : Int32)) rfl rfl (by decide) (Nat.le_of_ble_eq_true rfl) N107 g_b101 (g := (mkF mi 250 #[s0, s1, s2, s3, .val (.int c4), s5, .val (.int c6), .val (.int c7), s8, s9, s10, s11, s12, s13, s14, s15, s16, s17, s18, .unset] [(.int 109), (.int 5), (.ref b101), (.ref b101)])) rfl rfl (hb hby at_250)
  obtain ⟨T109, h109, L109, X109, e109, N109, Kq109, f109, st109⟩ := own_sc X108 hx hZ e108 f108 6 (c := (111 : Int32)) (j := (6 : Int32)) rfl rfl (by decide) (Nat.le_of_ble_eq_true rfl) N108 g_b101 (g := (mkF mi 256 #[s0, s1, s2, s3, .val (.int c4), s5, .val (.int c6), .val (.int c7), s8, s9, s10, s11, s12, s13, s14, s15, s16, s17, s18, .unset] [(.int 111), (.int 6), (.ref b101), (.ref b101)])) rfl rfl (hb hby at_256)
  obtain ⟨T110, h110, L110, X110, e110, N110, Kq110, f110, st110⟩ := own_sc X109 hx hZ e109 f109 7 (c := (100 : Int32)) (j := (7 : Int32)) rfl rfl (by decide) (Nat.le_of_ble_eq_true rfl) N109 g_b101 (g := (mkF mi 262 #[s0, s1, s2, s3, .val (.int c4), s5, .val (.int c6), .val (.int c7), s8, s9, s10, s11, s12, s13, s14, s15, s16, s17, s18, .unset] [(.int 100), (.int 7), (.ref b101), (.ref b101)])) rfl rfl (hb hby at_262)
  obtain ⟨T111, h111, L111, X111, e111, N111, Kq111, f111, st111⟩ := own_sc X110 hx hZ e110 f110 8 (c := (117 : Int32)) (j := (8 : Int32)) rfl rfl (by decide) (Nat.le_of_ble_eq_true rfl) N110 g_b101 (g := (mkF mi 268 #[s0, s1, s2, s3, .val (.int c4), s5, .val (.int c6), .val (.int c7), s8, s9, s10, s11, s12, s13, s14, s15, s16, s17, s18, .unset] [(.int 117), (.int 8), (.ref b101), (.ref b101)])) rfl rfl (hb hby at_268)
  obtain ⟨T112, h112, L112, X112, e112, N112, Kq112, f112, st112⟩ := own_sc X111 hx hZ e111 f111 9 (c := (108 : Int32)) (j := (9 : Int32)) rfl rfl (by decide) (Nat.le_of_ble_eq_true rfl) N111 g_b101 (g := (mkF mi 274 #[s0, s1, s2, s3, .val (.int c4), s5, .val (.int c6), .val (.int c7), s8, s9, s10, s11, s12, s13, s14, s15, s16, s17, s18, .unset] [(.int 108), (.int 9), (.ref b101), (.ref b101)])) rfl rfl (hb hby at_274)
  obtain ⟨T113, h113, L113, X113, e113, N113, Kq113, f113, st113⟩ := own_sc X112 hx hZ e112 f112 10 (c := (101 : Int32)) (j := (10 : Int32)) rfl rfl (by decide) (Nat.le_of_ble_eq_true rfl) N112 g_b101 (g := (mkF mi 280 #[s0, s1, s2, s3, .val (.int c4), s5, .val (.int c6), .val (.int c7), s8, s9, s10, s11, s12, s13, s14, s15, s16, s17, s18, .unset] [(.int 101), (.int 10), (.ref b101), (.ref b101)])) rfl rfl (hb hby at_280)
  obtain ⟨T114, h114, L114, X114, e114, N114, Kq114, f114, st114⟩ := own_sc X113 hx hZ e113 f113 11 (c := (47 : Int32)) (j := (11 : Int32)) rfl rfl (by decide) (Nat.le_of_ble_eq_true rfl) N113 g_b101 (g := (mkF mi 286 #[s0, s1, s2, s3, .val (.int c4), s5, .val (.int c6), .val (.int c7), s8, s9, s10, s11, s12, s13, s14, s15, s16, s17, s18, .unset] [(.int 47), (.int 11), (.ref b101), (.ref b101)])) rfl rfl (hb hby at_286)
  obtain ⟨T115, h115, L115, X115, e115, N115, Kq115, f115, st115⟩ := own_sc X114 hx hZ e114 f114 12 (c := c4) (j := (12 : Int32)) (own_nar_c hb4) rfl (by decide) (Nat.le_of_ble_eq_true rfl) N114 g_b101 (g := (mkF mi 292 #[s0, s1, s2, s3, .val (.int c4), s5, .val (.int c6), .val (.int c7), s8, s9, s10, s11, s12, s13, s14, s15, s16, s17, s18, .unset] [(.int c4), (.int 12), (.ref b101), (.ref b101)])) rfl rfl (hb hby at_292)
  obtain ⟨T116, h116, L116, X116, e116, N116, Kq116, f116, st116⟩ := own_sc X115 hx hZ e115 f115 13 (c := (33 : Int32)) (j := (13 : Int32)) rfl rfl (by decide) (Nat.le_of_ble_eq_true rfl) N115 g_b101 (g := (mkF mi 298 #[s0, s1, s2, s3, .val (.int c4), s5, .val (.int c6), .val (.int c7), s8, s9, s10, s11, s12, s13, s14, s15, s16, s17, s18, .unset] [(.int 33), (.int 13), (.ref b101), (.ref b101)])) rfl rfl (hb hby at_298)
  obtain ⟨T117, h117, L117, X117, e117, N117, Kq117, f117, st117⟩ := own_sc X116 hx hZ e116 f116 14 (c := c6) (j := (14 : Int32)) (own_nar_c hb6) rfl (by decide) (Nat.le_of_ble_eq_true rfl) N116 g_b101 (g := (mkF mi 304 #[s0, s1, s2, s3, .val (.int c4), s5, .val (.int c6), .val (.int c7), s8, s9, s10, s11, s12, s13, s14, s15, s16, s17, s18, .unset] [(.int c6), (.int 14), (.ref b101), (.ref b101)])) rfl rfl (hb hby at_304)
  obtain ⟨T118, h118, L118, X118, e118, N118, Kq118, f118, st118⟩ := own_sc X117 hx hZ e117 f117 15 (c := c7) (j := (15 : Int32)) (own_nar_c hb7) rfl (by decide) (Nat.le_of_ble_eq_true rfl) N117 g_b101 (g := (mkF mi 310 #[s0, s1, s2, s3, .val (.int c4), s5, .val (.int c6), .val (.int c7), s8, s9, s10, s11, s12, s13, s14, s15, s16, s17, s18, .unset] [(.int c7), (.int 15), (.ref b101), (.ref b101)])) rfl rfl (hb hby at_310)
  have pre119 : ∀ tt, SP pg ev below (T118.setTop (mkF mi 591 #[s0, s1, s2, s3, .val (.int c4), s5, .val (.int c6), .val (.int c7), s8, s9, s10, s11, s12, s13, s14, s15, s16, s17, s18, .val (.ref b101)] [])) tt → SP pg ev below (s₁.setTop (mkF mi 217 #[s0, s1, s2, s3, .val (.int c4), s5, .val (.int c6), .val (.int c7), s8, s9, s10, s11, s12, s13, s14, s15, s16, s17, s18, .unset] [])) tt := fun tt kk => pre0 _ (by
    show SP pg ev below (s₁.setTop (mkF mi 217 #[s0, s1, s2, s3, .val (.int c4), s5, .val (.int c6), .val (.int c7), s8, s9, s10, s11, s12, s13, s14, s15, s16, s17, s18, .unset] [])) _
    refine XS.bipush X0.here hx rfl (hb hby at_217) ?_
    refine st101 _ ?_
    refine XS.dup X101.here hx rfl (hb hby at_221) rfl rfl ?_
    refine XS.iconst X101.here hx rfl (hb hby at_222) ?_
    refine XS.bipush X101.here hx rfl (hb hby at_223) ?_
    refine st103 _ ?_
    refine XS.dup X103.here hx rfl (hb hby at_226) rfl rfl ?_
    refine XS.iconst X103.here hx rfl (hb hby at_227) ?_
    refine XS.bipush X103.here hx rfl (hb hby at_228) ?_
    refine st104 _ ?_
    refine XS.dup X104.here hx rfl (hb hby at_231) rfl rfl ?_
    refine XS.iconst X104.here hx rfl (hb hby at_232) ?_
    refine XS.bipush X104.here hx rfl (hb hby at_233) ?_
    refine st105 _ ?_
    refine XS.dup X105.here hx rfl (hb hby at_236) rfl rfl ?_
    refine XS.iconst X105.here hx rfl (hb hby at_237) ?_
    refine XS.bipush X105.here hx rfl (hb hby at_238) ?_
    refine st106 _ ?_
    refine XS.dup X106.here hx rfl (hb hby at_241) rfl rfl ?_
    refine XS.iconst X106.here hx rfl (hb hby at_242) ?_
    refine XS.bipush X106.here hx rfl (hb hby at_243) ?_
    refine st107 _ ?_
    refine XS.dup X107.here hx rfl (hb hby at_246) rfl rfl ?_
    refine XS.iconst X107.here hx rfl (hb hby at_247) ?_
    refine XS.bipush X107.here hx rfl (hb hby at_248) ?_
    refine st108 _ ?_
    refine XS.dup X108.here hx rfl (hb hby at_251) rfl rfl ?_
    refine XS.bipush X108.here hx rfl (hb hby at_252) ?_
    refine XS.bipush X108.here hx rfl (hb hby at_254) ?_
    refine st109 _ ?_
    refine XS.dup X109.here hx rfl (hb hby at_257) rfl rfl ?_
    refine XS.bipush X109.here hx rfl (hb hby at_258) ?_
    refine XS.bipush X109.here hx rfl (hb hby at_260) ?_
    refine st110 _ ?_
    refine XS.dup X110.here hx rfl (hb hby at_263) rfl rfl ?_
    refine XS.bipush X110.here hx rfl (hb hby at_264) ?_
    refine XS.bipush X110.here hx rfl (hb hby at_266) ?_
    refine st111 _ ?_
    refine XS.dup X111.here hx rfl (hb hby at_269) rfl rfl ?_
    refine XS.bipush X111.here hx rfl (hb hby at_270) ?_
    show SP pg ev below (T111.setTop (mkF mi 272 #[s0, s1, s2, s3, .val (.int c4), s5, .val (.int c6), .val (.int c7), s8, s9, s10, s11, s12, s13, s14, s15, s16, s17, s18, .unset] [(.int 9), (.ref b101), (.ref b101)])) _
    refine XS.bipush X111.here hx rfl (hb hby at_272) ?_
    refine st112 _ ?_
    refine XS.dup X112.here hx rfl (hb hby at_275) rfl rfl ?_
    refine XS.bipush X112.here hx rfl (hb hby at_276) ?_
    refine XS.bipush X112.here hx rfl (hb hby at_278) ?_
    refine st113 _ ?_
    refine XS.dup X113.here hx rfl (hb hby at_281) rfl rfl ?_
    refine XS.bipush X113.here hx rfl (hb hby at_282) ?_
    refine XS.bipush X113.here hx rfl (hb hby at_284) ?_
    refine st114 _ ?_
    refine XS.dup X114.here hx rfl (hb hby at_287) rfl rfl ?_
    refine XS.bipush X114.here hx rfl (hb hby at_288) ?_
    refine XS.iload X114.here hx rfl (hb hby at_290) rfl ?_
    refine st115 _ ?_
    refine XS.dup X115.here hx rfl (hb hby at_293) rfl rfl ?_
    refine XS.bipush X115.here hx rfl (hb hby at_294) ?_
    refine XS.bipush X115.here hx rfl (hb hby at_296) ?_
    refine st116 _ ?_
    refine XS.dup X116.here hx rfl (hb hby at_299) rfl rfl ?_
    refine XS.bipush X116.here hx rfl (hb hby at_300) ?_
    refine XS.iload X116.here hx rfl (hb hby at_302) rfl ?_
    refine st117 _ ?_
    refine XS.dup X117.here hx rfl (hb hby at_305) rfl rfl ?_
    refine XS.bipush X117.here hx rfl (hb hby at_306) ?_
    refine XS.iload X117.here hx rfl (hb hby at_308) rfl ?_
    refine st118 _ ?_
    refine XS.astore X118.here hx rfl (hb hby at_311) rfl rfl (l' := #[s0, s1, s2, s3, .val (.int c4), s5, .val (.int c6), .val (.int c7), s8, s9, s10, s11, s12, s13, s14, s15, s16, s17, s18, .val (.ref b101)]) rfl ?_
    refine XS.goto X118.here hx rfl (pc0 := 313) (pc' := 591) rfl (hb hby at_313) (by decide) (by decide) ?_
    exact kk)
  exact ⟨_, _, _, b101, k101, X118, e118, N118, ((((((((((((((((((Keep.refl hE []).ext E101).trans Kq103 (allS (Or.inr (Nat.le_of_eq q101.symm)) all0)).trans Kq104 (allS (Or.inr (Nat.le_of_eq q101.symm)) all0)).trans Kq105 (allS (Or.inr (Nat.le_of_eq q101.symm)) all0)).trans Kq106 (allS (Or.inr (Nat.le_of_eq q101.symm)) all0)).trans Kq107 (allS (Or.inr (Nat.le_of_eq q101.symm)) all0)).trans Kq108 (allS (Or.inr (Nat.le_of_eq q101.symm)) all0)).trans Kq109 (allS (Or.inr (Nat.le_of_eq q101.symm)) all0)).trans Kq110 (allS (Or.inr (Nat.le_of_eq q101.symm)) all0)).trans Kq111 (allS (Or.inr (Nat.le_of_eq q101.symm)) all0)).trans Kq112 (allS (Or.inr (Nat.le_of_eq q101.symm)) all0)).trans Kq113 (allS (Or.inr (Nat.le_of_eq q101.symm)) all0)).trans Kq114 (allS (Or.inr (Nat.le_of_eq q101.symm)) all0)).trans Kq115 (allS (Or.inr (Nat.le_of_eq q101.symm)) all0)).trans Kq116 (allS (Or.inr (Nat.le_of_eq q101.symm)) all0)).trans Kq117 (allS (Or.inr (Nat.le_of_eq q101.symm)) all0)).trans Kq118 (allS (Or.inr (Nat.le_of_eq q101.symm)) all0)), (Nat.le_of_eq q101.symm), f118, fun tt kk => pre119 tt kk⟩
theorem sw_fill13 {la : Launch} {Z : State} {a0 : Array Value} (hw : HW a0 Z) (c4 : Int32) (s0 s1 s2 s3 s5 s6 s7 s8 s9 s10 s11 s12 s13 s14 s15 s16 s17 s18 : Slot) (hE : Heap) (n0 : Nat) {pg : Program} {ev : Env} {sb : State} {mi : MethodId} {aa : Array Value} {below : List Frame} {me : Method} {cd : Code} {s₁ : State} {ls : List Loc} (X0 : Stand pg la ev room_1 sb mi aa below me cd s₁ ls 70 10000) (hx : pg.tables.exec = Jvm.exec) (hby : cd.code = code) (hml : cd.maxLocals = 20) (hZ : Z.Warmed39 sb.vm) (hown : sb.vm.findClass c5_ = some mi.cls) (eE : s₁.heap = hE) (N0 : Fr n0 ls) (O : Old Z n0 hE) (hb4 : ¬ (c4 < (0 : Int32)) ∧ ¬ ((255 : Int32) < c4)) :
    ∃ (T' : State) (h' : Heap) (L' : List Loc) (b : Addr) (kb : ClassId), Stand pg la ev room_1 sb mi aa below me cd T' L' (71) (10013) ∧ T'.heap = h' ∧ Fr n0 L' ∧ Keep hE h' [] ∧ hE.size ≤ b ∧ Arv Z h' b kb .char (13 : Int32) [(.int 106), (.int 97), (.int 118), (.int 97), (.int 58), (.int 109), (.int 111), (.int 100), (.int 117), (.int 108), (.int 101), (.int 47), (.int c4)] (.int 0) ∧ ∀ tt, SP pg ev below (T'.setTop (mkF mi 591 #[s0, s1, s2, s3, .val (.int c4), s5, s6, s7, s8, s9, s10, s11, s12, s13, s14, s15, s16, s17, s18, .val (.ref b)] [])) tt → SP pg ev below (s₁.setTop (mkF mi 316 #[s0, s1, s2, s3, .val (.int c4), s5, s6, s7, s8, s9, s10, s11, s12, s13, s14, s15, s16, s17, s18, .unset] [])) tt := by
  have pre0 : ∀ tt, SP pg ev below (s₁.setTop (mkF mi 316 #[s0, s1, s2, s3, .val (.int c4), s5, s6, s7, s8, s9, s10, s11, s12, s13, s14, s15, s16, s17, s18, .unset] [])) tt → SP pg ev below (s₁.setTop (mkF mi 316 #[s0, s1, s2, s3, .val (.int c4), s5, s6, s7, s8, s9, s10, s11, s12, s13, s14, s15, s16, s17, s18, .unset] [])) tt := fun tt kk => kk
  obtain ⟨T101, h101, k101, X101, e101, E101, A101, st101⟩ := newP (aty := .char) X0 hx hZ (wd7 hw) eE (g := (mkF mi 318 #[s0, s1, s2, s3, .val (.int c4), s5, s6, s7, s8, s9, s10, s11, s12, s13, s14, s15, s16, s17, s18, .unset] [(.int 13)])) rfl (hb hby at_318) rfl (by decide) (cap := 13) (by decide) (by decide) (by decide) (by decide)
  obtain ⟨b101, q101⟩ : ∃ z, z = hE.size := ⟨_, rfl⟩
  rw [← q101] at A101 st101
  have f102 : Arv Z h101 b101 k101 .char (13 : Int32) [(.int 0), (.int 0), (.int 0), (.int 0), (.int 0), (.int 0), (.int 0), (.int 0), (.int 0), (.int 0), (.int 0), (.int 0), (.int 0)] (.int 0) := (Arv.new A101 (by decide)).pad (pad_rep [] (.int 0) 13)
  have g_b101 : n0 ≤ b101 := Nat.le_trans (Nat.le_trans (Nat.le_of_eq O.1.symm) O.2.1) (Nat.le_of_eq q101.symm)
  obtain ⟨T103, h103, L103, X103, e103, N103, Kq103, f103, st103⟩ := own_sc X101 hx hZ e101 f102 0 (c := (106 : Int32)) (j := (0 : Int32)) rfl rfl (by decide) (Nat.le_of_ble_eq_true rfl) N0 g_b101 (g := (mkF mi 324 #[s0, s1, s2, s3, .val (.int c4), s5, s6, s7, s8, s9, s10, s11, s12, s13, s14, s15, s16, s17, s18, .unset] [(.int 106), (.int 0), (.ref b101), (.ref b101)])) rfl rfl (hb hby at_324)
  obtain ⟨T104, h104, L104, X104, e104, N104, Kq104, f104, st104⟩ := own_sc X103 hx hZ e103 f103 1 (c := (97 : Int32)) (j := (1 : Int32)) rfl rfl (by decide) (Nat.le_of_ble_eq_true rfl) N103 g_b101 (g := (mkF mi 329 #[s0, s1, s2, s3, .val (.int c4), s5, s6, s7, s8, s9, s10, s11, s12, s13, s14, s15, s16, s17, s18, .unset] [(.int 97), (.int 1), (.ref b101), (.ref b101)])) rfl rfl (hb hby at_329)
  obtain ⟨T105, h105, L105, X105, e105, N105, Kq105, f105, st105⟩ := own_sc X104 hx hZ e104 f104 2 (c := (118 : Int32)) (j := (2 : Int32)) rfl rfl (by decide) (Nat.le_of_ble_eq_true rfl) N104 g_b101 (g := (mkF mi 334 #[s0, s1, s2, s3, .val (.int c4), s5, s6, s7, s8, s9, s10, s11, s12, s13, s14, s15, s16, s17, s18, .unset] [(.int 118), (.int 2), (.ref b101), (.ref b101)])) rfl rfl (hb hby at_334)
  obtain ⟨T106, h106, L106, X106, e106, N106, Kq106, f106, st106⟩ := own_sc X105 hx hZ e105 f105 3 (c := (97 : Int32)) (j := (3 : Int32)) rfl rfl (by decide) (Nat.le_of_ble_eq_true rfl) N105 g_b101 (g := (mkF mi 339 #[s0, s1, s2, s3, .val (.int c4), s5, s6, s7, s8, s9, s10, s11, s12, s13, s14, s15, s16, s17, s18, .unset] [(.int 97), (.int 3), (.ref b101), (.ref b101)])) rfl rfl (hb hby at_339)
  obtain ⟨T107, h107, L107, X107, e107, N107, Kq107, f107, st107⟩ := own_sc X106 hx hZ e106 f106 4 (c := (58 : Int32)) (j := (4 : Int32)) rfl rfl (by decide) (Nat.le_of_ble_eq_true rfl) N106 g_b101 (g := (mkF mi 344 #[s0, s1, s2, s3, .val (.int c4), s5, s6, s7, s8, s9, s10, s11, s12, s13, s14, s15, s16, s17, s18, .unset] [(.int 58), (.int 4), (.ref b101), (.ref b101)])) rfl rfl (hb hby at_344)
  obtain ⟨T108, h108, L108, X108, e108, N108, Kq108, f108, st108⟩ := own_sc X107 hx hZ e107 f107 5 (c := (109 : Int32)) (j := (5 : Int32)) rfl rfl (by decide) (Nat.le_of_ble_eq_true rfl) N107 g_b101 (g := (mkF mi 349 #[s0, s1, s2, s3, .val (.int c4), s5, s6, s7, s8, s9, s10, s11, s12, s13, s14, s15, s16, s17, s18, .unset] [(.int 109), (.int 5), (.ref b101), (.ref b101)])) rfl rfl (hb hby at_349)
  obtain ⟨T109, h109, L109, X109, e109, N109, Kq109, f109, st109⟩ := own_sc X108 hx hZ e108 f108 6 (c := (111 : Int32)) (j := (6 : Int32)) rfl rfl (by decide) (Nat.le_of_ble_eq_true rfl) N108 g_b101 (g := (mkF mi 355 #[s0, s1, s2, s3, .val (.int c4), s5, s6, s7, s8, s9, s10, s11, s12, s13, s14, s15, s16, s17, s18, .unset] [(.int 111), (.int 6), (.ref b101), (.ref b101)])) rfl rfl (hb hby at_355)
  obtain ⟨T110, h110, L110, X110, e110, N110, Kq110, f110, st110⟩ := own_sc X109 hx hZ e109 f109 7 (c := (100 : Int32)) (j := (7 : Int32)) rfl rfl (by decide) (Nat.le_of_ble_eq_true rfl) N109 g_b101 (g := (mkF mi 361 #[s0, s1, s2, s3, .val (.int c4), s5, s6, s7, s8, s9, s10, s11, s12, s13, s14, s15, s16, s17, s18, .unset] [(.int 100), (.int 7), (.ref b101), (.ref b101)])) rfl rfl (hb hby at_361)
  obtain ⟨T111, h111, L111, X111, e111, N111, Kq111, f111, st111⟩ := own_sc X110 hx hZ e110 f110 8 (c := (117 : Int32)) (j := (8 : Int32)) rfl rfl (by decide) (Nat.le_of_ble_eq_true rfl) N110 g_b101 (g := (mkF mi 367 #[s0, s1, s2, s3, .val (.int c4), s5, s6, s7, s8, s9, s10, s11, s12, s13, s14, s15, s16, s17, s18, .unset] [(.int 117), (.int 8), (.ref b101), (.ref b101)])) rfl rfl (hb hby at_367)
  obtain ⟨T112, h112, L112, X112, e112, N112, Kq112, f112, st112⟩ := own_sc X111 hx hZ e111 f111 9 (c := (108 : Int32)) (j := (9 : Int32)) rfl rfl (by decide) (Nat.le_of_ble_eq_true rfl) N111 g_b101 (g := (mkF mi 373 #[s0, s1, s2, s3, .val (.int c4), s5, s6, s7, s8, s9, s10, s11, s12, s13, s14, s15, s16, s17, s18, .unset] [(.int 108), (.int 9), (.ref b101), (.ref b101)])) rfl rfl (hb hby at_373)
  obtain ⟨T113, h113, L113, X113, e113, N113, Kq113, f113, st113⟩ := own_sc X112 hx hZ e112 f112 10 (c := (101 : Int32)) (j := (10 : Int32)) rfl rfl (by decide) (Nat.le_of_ble_eq_true rfl) N112 g_b101 (g := (mkF mi 379 #[s0, s1, s2, s3, .val (.int c4), s5, s6, s7, s8, s9, s10, s11, s12, s13, s14, s15, s16, s17, s18, .unset] [(.int 101), (.int 10), (.ref b101), (.ref b101)])) rfl rfl (hb hby at_379)
  obtain ⟨T114, h114, L114, X114, e114, N114, Kq114, f114, st114⟩ := own_sc X113 hx hZ e113 f113 11 (c := (47 : Int32)) (j := (11 : Int32)) rfl rfl (by decide) (Nat.le_of_ble_eq_true rfl) N113 g_b101 (g := (mkF mi 385 #[s0, s1, s2, s3, .val (.int c4), s5, s6, s7, s8, s9, s10, s11, s12, s13, s14, s15, s16, s17, s18, .unset] [(.int 47), (.int 11), (.ref b101), (.ref b101)])) rfl rfl (hb hby at_385)
  obtain ⟨T115, h115, L115, X115, e115, N115, Kq115, f115, st115⟩ := own_sc X114 hx hZ e114 f114 12 (c := c4) (j := (12 : Int32)) (own_nar_c hb4) rfl (by decide) (Nat.le_of_ble_eq_true rfl) N114 g_b101 (g := (mkF mi 391 #[s0, s1, s2, s3, .val (.int c4), s5, s6, s7, s8, s9, s10, s11, s12, s13, s14, s15, s16, s17, s18, .unset] [(.int c4), (.int 12), (.ref b101), (.ref b101)])) rfl rfl (hb hby at_391)
  have pre116 : ∀ tt, SP pg ev below (T115.setTop (mkF mi 591 #[s0, s1, s2, s3, .val (.int c4), s5, s6, s7, s8, s9, s10, s11, s12, s13, s14, s15, s16, s17, s18, .val (.ref b101)] [])) tt → SP pg ev below (s₁.setTop (mkF mi 316 #[s0, s1, s2, s3, .val (.int c4), s5, s6, s7, s8, s9, s10, s11, s12, s13, s14, s15, s16, s17, s18, .unset] [])) tt := fun tt kk => pre0 _ (by
    show SP pg ev below (s₁.setTop (mkF mi 316 #[s0, s1, s2, s3, .val (.int c4), s5, s6, s7, s8, s9, s10, s11, s12, s13, s14, s15, s16, s17, s18, .unset] [])) _
    refine XS.bipush X0.here hx rfl (hb hby at_316) ?_
    refine st101 _ ?_
    refine XS.dup X101.here hx rfl (hb hby at_320) rfl rfl ?_
    refine XS.iconst X101.here hx rfl (hb hby at_321) ?_
    refine XS.bipush X101.here hx rfl (hb hby at_322) ?_
    refine st103 _ ?_
    refine XS.dup X103.here hx rfl (hb hby at_325) rfl rfl ?_
    refine XS.iconst X103.here hx rfl (hb hby at_326) ?_
    refine XS.bipush X103.here hx rfl (hb hby at_327) ?_
    refine st104 _ ?_
    refine XS.dup X104.here hx rfl (hb hby at_330) rfl rfl ?_
    refine XS.iconst X104.here hx rfl (hb hby at_331) ?_
    refine XS.bipush X104.here hx rfl (hb hby at_332) ?_
    refine st105 _ ?_
    refine XS.dup X105.here hx rfl (hb hby at_335) rfl rfl ?_
    refine XS.iconst X105.here hx rfl (hb hby at_336) ?_
    refine XS.bipush X105.here hx rfl (hb hby at_337) ?_
    refine st106 _ ?_
    refine XS.dup X106.here hx rfl (hb hby at_340) rfl rfl ?_
    refine XS.iconst X106.here hx rfl (hb hby at_341) ?_
    refine XS.bipush X106.here hx rfl (hb hby at_342) ?_
    refine st107 _ ?_
    refine XS.dup X107.here hx rfl (hb hby at_345) rfl rfl ?_
    refine XS.iconst X107.here hx rfl (hb hby at_346) ?_
    refine XS.bipush X107.here hx rfl (hb hby at_347) ?_
    refine st108 _ ?_
    refine XS.dup X108.here hx rfl (hb hby at_350) rfl rfl ?_
    refine XS.bipush X108.here hx rfl (hb hby at_351) ?_
    refine XS.bipush X108.here hx rfl (hb hby at_353) ?_
    refine st109 _ ?_
    refine XS.dup X109.here hx rfl (hb hby at_356) rfl rfl ?_
    refine XS.bipush X109.here hx rfl (hb hby at_357) ?_
    refine XS.bipush X109.here hx rfl (hb hby at_359) ?_
    refine st110 _ ?_
    refine XS.dup X110.here hx rfl (hb hby at_362) rfl rfl ?_
    refine XS.bipush X110.here hx rfl (hb hby at_363) ?_
    refine XS.bipush X110.here hx rfl (hb hby at_365) ?_
    refine st111 _ ?_
    refine XS.dup X111.here hx rfl (hb hby at_368) rfl rfl ?_
    refine XS.bipush X111.here hx rfl (hb hby at_369) ?_
    show SP pg ev below (T111.setTop (mkF mi 371 #[s0, s1, s2, s3, .val (.int c4), s5, s6, s7, s8, s9, s10, s11, s12, s13, s14, s15, s16, s17, s18, .unset] [(.int 9), (.ref b101), (.ref b101)])) _
    refine XS.bipush X111.here hx rfl (hb hby at_371) ?_
    refine st112 _ ?_
    refine XS.dup X112.here hx rfl (hb hby at_374) rfl rfl ?_
    refine XS.bipush X112.here hx rfl (hb hby at_375) ?_
    refine XS.bipush X112.here hx rfl (hb hby at_377) ?_
    refine st113 _ ?_
    refine XS.dup X113.here hx rfl (hb hby at_380) rfl rfl ?_
    refine XS.bipush X113.here hx rfl (hb hby at_381) ?_
    refine XS.bipush X113.here hx rfl (hb hby at_383) ?_
    refine st114 _ ?_
    refine XS.dup X114.here hx rfl (hb hby at_386) rfl rfl ?_
    refine XS.bipush X114.here hx rfl (hb hby at_387) ?_
    refine XS.iload X114.here hx rfl (hb hby at_389) rfl ?_
    refine st115 _ ?_
    refine XS.astore X115.here hx rfl (hb hby at_392) rfl rfl (l' := #[s0, s1, s2, s3, .val (.int c4), s5, s6, s7, s8, s9, s10, s11, s12, s13, s14, s15, s16, s17, s18, .val (.ref b101)]) rfl ?_
    refine XS.goto X115.here hx rfl (pc0 := 394) (pc' := 591) rfl (hb hby at_394) (by decide) (by decide) ?_
    exact kk)
  exact ⟨_, _, _, b101, k101, X115, e115, N115, (((((((((((((((Keep.refl hE []).ext E101).trans Kq103 (allS (Or.inr (Nat.le_of_eq q101.symm)) all0)).trans Kq104 (allS (Or.inr (Nat.le_of_eq q101.symm)) all0)).trans Kq105 (allS (Or.inr (Nat.le_of_eq q101.symm)) all0)).trans Kq106 (allS (Or.inr (Nat.le_of_eq q101.symm)) all0)).trans Kq107 (allS (Or.inr (Nat.le_of_eq q101.symm)) all0)).trans Kq108 (allS (Or.inr (Nat.le_of_eq q101.symm)) all0)).trans Kq109 (allS (Or.inr (Nat.le_of_eq q101.symm)) all0)).trans Kq110 (allS (Or.inr (Nat.le_of_eq q101.symm)) all0)).trans Kq111 (allS (Or.inr (Nat.le_of_eq q101.symm)) all0)).trans Kq112 (allS (Or.inr (Nat.le_of_eq q101.symm)) all0)).trans Kq113 (allS (Or.inr (Nat.le_of_eq q101.symm)) all0)).trans Kq114 (allS (Or.inr (Nat.le_of_eq q101.symm)) all0)).trans Kq115 (allS (Or.inr (Nat.le_of_eq q101.symm)) all0)), (Nat.le_of_eq q101.symm), f115, fun tt kk => pre116 tt kk⟩
theorem sw_fill17 {la : Launch} {Z : State} {a0 : Array Value} (hw : HW a0 Z) (c4 c5 c6 c7 : Int32) (s0 s1 s2 s3 s8 s9 s10 s11 s12 s13 s14 s15 s16 s17 s18 : Slot) (hE : Heap) (n0 : Nat) {pg : Program} {ev : Env} {sb : State} {mi : MethodId} {aa : Array Value} {below : List Frame} {me : Method} {cd : Code} {s₁ : State} {ls : List Loc} (X0 : Stand pg la ev room_1 sb mi aa below me cd s₁ ls 70 10000) (hx : pg.tables.exec = Jvm.exec) (hby : cd.code = code) (hml : cd.maxLocals = 20) (hZ : Z.Warmed39 sb.vm) (hown : sb.vm.findClass c5_ = some mi.cls) (eE : s₁.heap = hE) (N0 : Fr n0 ls) (O : Old Z n0 hE) (hb4 : ¬ (c4 < (0 : Int32)) ∧ ¬ ((255 : Int32) < c4)) (hb5 : ¬ (c5 < (0 : Int32)) ∧ ¬ ((255 : Int32) < c5)) (hb6 : ¬ (c6 < (0 : Int32)) ∧ ¬ ((255 : Int32) < c6)) (hb7 : ¬ (c7 < (0 : Int32)) ∧ ¬ ((255 : Int32) < c7)) :
    ∃ (T' : State) (h' : Heap) (L' : List Loc) (b : Addr) (kb : ClassId), Stand pg la ev room_1 sb mi aa below me cd T' L' (71) (10017) ∧ T'.heap = h' ∧ Fr n0 L' ∧ Keep hE h' [] ∧ hE.size ≤ b ∧ Arv Z h' b kb .char (17 : Int32) [(.int 106), (.int 97), (.int 118), (.int 97), (.int 58), (.int 109), (.int 111), (.int 100), (.int 117), (.int 108), (.int 101), (.int 47), (.int c4), (.int c5), (.int 33), (.int c6), (.int c7)] (.int 0) ∧ ∀ tt, SP pg ev below (T'.setTop (mkF mi 591 #[s0, s1, s2, s3, .val (.int c4), .val (.int c5), .val (.int c6), .val (.int c7), s8, s9, s10, s11, s12, s13, s14, s15, s16, s17, s18, .val (.ref b)] [])) tt → SP pg ev below (s₁.setTop (mkF mi 402 #[s0, s1, s2, s3, .val (.int c4), .val (.int c5), .val (.int c6), .val (.int c7), s8, s9, s10, s11, s12, s13, s14, s15, s16, s17, s18, .unset] [])) tt := by
  have pre0 : ∀ tt, SP pg ev below (s₁.setTop (mkF mi 402 #[s0, s1, s2, s3, .val (.int c4), .val (.int c5), .val (.int c6), .val (.int c7), s8, s9, s10, s11, s12, s13, s14, s15, s16, s17, s18, .unset] [])) tt → SP pg ev below (s₁.setTop (mkF mi 402 #[s0, s1, s2, s3, .val (.int c4), .val (.int c5), .val (.int c6), .val (.int c7), s8, s9, s10, s11, s12, s13, s14, s15, s16, s17, s18, .unset] [])) tt := fun tt kk => kk
  obtain ⟨T101, h101, k101, X101, e101, E101, A101, st101⟩ := newP (aty := .char) X0 hx hZ (wd7 hw) eE (g := (mkF mi 404 #[s0, s1, s2, s3, .val (.int c4), .val (.int c5), .val (.int c6), .val (.int c7), s8, s9, s10, s11, s12, s13, s14, s15, s16, s17, s18, .unset] [(.int 17)])) rfl (hb hby at_404) rfl (by decide) (cap := 17) (by decide) (by decide) (by decide) (by decide)
  obtain ⟨b101, q101⟩ : ∃ z, z = hE.size := ⟨_, rfl⟩
  rw [← q101] at A101 st101
  have f102 : Arv Z h101 b101 k101 .char (17 : Int32) [(.int 0), (.int 0), (.int 0), (.int 0), (.int 0), (.int 0), (.int 0), (.int 0), (.int 0), (.int 0), (.int 0), (.int 0), (.int 0), (.int 0), (.int 0), (.int 0), (.int 0)] (.int 0) := (Arv.new A101 (by decide)).pad (pad_rep [] (.int 0) 17)
  have g_b101 : n0 ≤ b101 := Nat.le_trans (Nat.le_trans (Nat.le_of_eq O.1.symm) O.2.1) (Nat.le_of_eq q101.symm)
  obtain ⟨T103, h103, L103, X103, e103, N103, Kq103, f103, st103⟩ := own_sc X101 hx hZ e101 f102 0 (c := (106 : Int32)) (j := (0 : Int32)) rfl rfl (by decide) (Nat.le_of_ble_eq_true rfl) N0 g_b101 (g := (mkF mi 410 #[s0, s1, s2, s3, .val (.int c4), .val (.int c5), .val (.int c6), .val (.int c7), s8, s9, s10, s11, s12, s13, s14, s15, s16, s17, s18, .unset] [(.int 106), (.int 0), (.ref b101), (.ref b101)])) rfl rfl (hb hby at_410)
  obtain ⟨T104, h104, L104, X104, e104, N104, Kq104, f104, st104⟩ := own_sc X103 hx hZ e103 f103 1 (c := (97 : Int32)) (j := (1 : Int32)) rfl rfl (by decide) (Nat.le_of_ble_eq_true rfl) N103 g_b101 (g := (mkF mi 415 #[s0, s1, s2, s3, .val (.int c4), .val (.int c5), .val (.int c6), .val (.int c7), s8, s9, s10, s11, s12, s13, s14, s15, s16, s17, s18, .unset] [(.int 97), (.int 1), (.ref b101), (.ref b101)])) rfl rfl (hb hby at_415)
  obtain ⟨T105, h105, L105, X105, e105, N105, Kq105, f105, st105⟩ := own_sc X104 hx hZ e104 f104 2 (c := (118 : Int32)) (j := (2 : Int32)) rfl rfl (by decide) (Nat.le_of_ble_eq_true rfl) N104 g_b101 (g := (mkF mi 420 #[s0, s1, s2, s3, .val (.int c4), .val (.int c5), .val (.int c6), .val (.int c7), s8, s9, s10, s11, s12, s13, s14, s15, s16, s17, s18, .unset] [(.int 118), (.int 2), (.ref b101), (.ref b101)])) rfl rfl (hb hby at_420)
  obtain ⟨T106, h106, L106, X106, e106, N106, Kq106, f106, st106⟩ := own_sc X105 hx hZ e105 f105 3 (c := (97 : Int32)) (j := (3 : Int32)) rfl rfl (by decide) (Nat.le_of_ble_eq_true rfl) N105 g_b101 (g := (mkF mi 425 #[s0, s1, s2, s3, .val (.int c4), .val (.int c5), .val (.int c6), .val (.int c7), s8, s9, s10, s11, s12, s13, s14, s15, s16, s17, s18, .unset] [(.int 97), (.int 3), (.ref b101), (.ref b101)])) rfl rfl (hb hby at_425)
  obtain ⟨T107, h107, L107, X107, e107, N107, Kq107, f107, st107⟩ := own_sc X106 hx hZ e106 f106 4 (c := (58 : Int32)) (j := (4 : Int32)) rfl rfl (by decide) (Nat.le_of_ble_eq_true rfl) N106 g_b101 (g := (mkF mi 430 #[s0, s1, s2, s3, .val (.int c4), .val (.int c5), .val (.int c6), .val (.int c7), s8, s9, s10, s11, s12, s13, s14, s15, s16, s17, s18, .unset] [(.int 58), (.int 4), (.ref b101), (.ref b101)])) rfl rfl (hb hby at_430)
  obtain ⟨T108, h108, L108, X108, e108, N108, Kq108, f108, st108⟩ := own_sc X107 hx hZ e107 f107 5 (c := (109 : Int32)) (j := (5 : Int32)) rfl rfl (by decide) (Nat.le_of_ble_eq_true rfl) N107 g_b101 (g := (mkF mi 435 #[s0, s1, s2, s3, .val (.int c4), .val (.int c5), .val (.int c6), .val (.int c7), s8, s9, s10, s11, s12, s13, s14, s15, s16, s17, s18, .unset] [(.int 109), (.int 5), (.ref b101), (.ref b101)])) rfl rfl (hb hby at_435)
  obtain ⟨T109, h109, L109, X109, e109, N109, Kq109, f109, st109⟩ := own_sc X108 hx hZ e108 f108 6 (c := (111 : Int32)) (j := (6 : Int32)) rfl rfl (by decide) (Nat.le_of_ble_eq_true rfl) N108 g_b101 (g := (mkF mi 441 #[s0, s1, s2, s3, .val (.int c4), .val (.int c5), .val (.int c6), .val (.int c7), s8, s9, s10, s11, s12, s13, s14, s15, s16, s17, s18, .unset] [(.int 111), (.int 6), (.ref b101), (.ref b101)])) rfl rfl (hb hby at_441)
  obtain ⟨T110, h110, L110, X110, e110, N110, Kq110, f110, st110⟩ := own_sc X109 hx hZ e109 f109 7 (c := (100 : Int32)) (j := (7 : Int32)) rfl rfl (by decide) (Nat.le_of_ble_eq_true rfl) N109 g_b101 (g := (mkF mi 447 #[s0, s1, s2, s3, .val (.int c4), .val (.int c5), .val (.int c6), .val (.int c7), s8, s9, s10, s11, s12, s13, s14, s15, s16, s17, s18, .unset] [(.int 100), (.int 7), (.ref b101), (.ref b101)])) rfl rfl (hb hby at_447)
  obtain ⟨T111, h111, L111, X111, e111, N111, Kq111, f111, st111⟩ := own_sc X110 hx hZ e110 f110 8 (c := (117 : Int32)) (j := (8 : Int32)) rfl rfl (by decide) (Nat.le_of_ble_eq_true rfl) N110 g_b101 (g := (mkF mi 453 #[s0, s1, s2, s3, .val (.int c4), .val (.int c5), .val (.int c6), .val (.int c7), s8, s9, s10, s11, s12, s13, s14, s15, s16, s17, s18, .unset] [(.int 117), (.int 8), (.ref b101), (.ref b101)])) rfl rfl (hb hby at_453)
  obtain ⟨T112, h112, L112, X112, e112, N112, Kq112, f112, st112⟩ := own_sc X111 hx hZ e111 f111 9 (c := (108 : Int32)) (j := (9 : Int32)) rfl rfl (by decide) (Nat.le_of_ble_eq_true rfl) N111 g_b101 (g := (mkF mi 459 #[s0, s1, s2, s3, .val (.int c4), .val (.int c5), .val (.int c6), .val (.int c7), s8, s9, s10, s11, s12, s13, s14, s15, s16, s17, s18, .unset] [(.int 108), (.int 9), (.ref b101), (.ref b101)])) rfl rfl (hb hby at_459)
  obtain ⟨T113, h113, L113, X113, e113, N113, Kq113, f113, st113⟩ := own_sc X112 hx hZ e112 f112 10 (c := (101 : Int32)) (j := (10 : Int32)) rfl rfl (by decide) (Nat.le_of_ble_eq_true rfl) N112 g_b101 (g := (mkF mi 465 #[s0, s1, s2, s3, .val (.int c4), .val (.int c5), .val (.int c6), .val (.int c7), s8, s9, s10, s11, s12, s13, s14, s15, s16, s17, s18, .unset] [(.int 101), (.int 10), (.ref b101), (.ref b101)])) rfl rfl (hb hby at_465)
  obtain ⟨T114, h114, L114, X114, e114, N114, Kq114, f114, st114⟩ := own_sc X113 hx hZ e113 f113 11 (c := (47 : Int32)) (j := (11 : Int32)) rfl rfl (by decide) (Nat.le_of_ble_eq_true rfl) N113 g_b101 (g := (mkF mi 471 #[s0, s1, s2, s3, .val (.int c4), .val (.int c5), .val (.int c6), .val (.int c7), s8, s9, s10, s11, s12, s13, s14, s15, s16, s17, s18, .unset] [(.int 47), (.int 11), (.ref b101), (.ref b101)])) rfl rfl (hb hby at_471)
  obtain ⟨T115, h115, L115, X115, e115, N115, Kq115, f115, st115⟩ := own_sc X114 hx hZ e114 f114 12 (c := c4) (j := (12 : Int32)) (own_nar_c hb4) rfl (by decide) (Nat.le_of_ble_eq_true rfl) N114 g_b101 (g := (mkF mi 477 #[s0, s1, s2, s3, .val (.int c4), .val (.int c5), .val (.int c6), .val (.int c7), s8, s9, s10, s11, s12, s13, s14, s15, s16, s17, s18, .unset] [(.int c4), (.int 12), (.ref b101), (.ref b101)])) rfl rfl (hb hby at_477)
  obtain ⟨T116, h116, L116, X116, e116, N116, Kq116, f116, st116⟩ := own_sc X115 hx hZ e115 f115 13 (c := c5) (j := (13 : Int32)) (own_nar_c hb5) rfl (by decide) (Nat.le_of_ble_eq_true rfl) N115 g_b101 (g := (mkF mi 483 #[s0, s1, s2, s3, .val (.int c4), .val (.int c5), .val (.int c6), .val (.int c7), s8, s9, s10, s11, s12, s13, s14, s15, s16, s17, s18, .unset] [(.int c5), (.int 13), (.ref b101), (.ref b101)])) rfl rfl (hb hby at_483)
  obtain ⟨T117, h117, L117, X117, e117, N117, Kq117, f117, st117⟩ := own_sc X116 hx hZ e116 f116 14 (c := (33 : Int32)) (j := (14 : Int32)) rfl rfl (by decide) (Nat.le_of_ble_eq_true rfl) N116 g_b101 (g := (mkF mi 489 #[s0, s1, s2, s3, .val (.int c4), .val (.int c5), .val (.int c6), .val (.int c7), s8, s9, s10, s11, s12, s13, s14, s15, s16, s17, s18, .unset] [(.int 33), (.int 14), (.ref b101), (.ref b101)])) rfl rfl (hb hby at_489)
  obtain ⟨T118, h118, L118, X118, e118, N118, Kq118, f118, st118⟩ := own_sc X117 hx hZ e117 f117 15 (c := c6) (j := (15 : Int32)) (own_nar_c hb6) rfl (by decide) (Nat.le_of_ble_eq_true rfl) N117 g_b101 (g := (mkF mi 495 #[s0, s1, s2, s3, .val (.int c4), .val (.int c5), .val (.int c6), .val (.int c7), s8, s9, s10, s11, s12, s13, s14, s15, s16, s17, s18, .unset] [(.int c6), (.int 15), (.ref b101), (.ref b101)])) rfl rfl (hb hby at_495)
  obtain ⟨T119, h119, L119, X119, e119, N119, Kq119, f119, st119⟩ := own_sc X118 hx hZ e118 f118 16 (c := c7) (j := (16 : Int32)) (own_nar_c hb7) rfl (by decide) (Nat.le_of_ble_eq_true rfl) N118 g_b101 (g := (mkF mi 501 #[s0, s1, s2, s3, .val (.int c4), .val (.int c5), .val (.int c6), .val (.int c7), s8, s9, s10, s11, s12, s13, s14, s15, s16, s17, s18, .unset] [(.int c7), (.int 16), (.ref b101), (.ref b101)])) rfl rfl (hb hby at_501)
  have pre120 : ∀ tt, SP pg ev below (T119.setTop (mkF mi 591 #[s0, s1, s2, s3, .val (.int c4), .val (.int c5), .val (.int c6), .val (.int c7), s8, s9, s10, s11, s12, s13, s14, s15, s16, s17, s18, .val (.ref b101)] [])) tt → SP pg ev below (s₁.setTop (mkF mi 402 #[s0, s1, s2, s3, .val (.int c4), .val (.int c5), .val (.int c6), .val (.int c7), s8, s9, s10, s11, s12, s13, s14, s15, s16, s17, s18, .unset] [])) tt := fun tt kk => pre0 _ (by
    show SP pg ev below (s₁.setTop (mkF mi 402 #[s0, s1, s2, s3, .val (.int c4), .val (.int c5), .val (.int c6), .val (.int c7), s8, s9, s10, s11, s12, s13, s14, s15, s16, s17, s18, .unset] [])) _
    refine XS.bipush X0.here hx rfl (hb hby at_402) ?_
    refine st101 _ ?_
    refine XS.dup X101.here hx rfl (hb hby at_406) rfl rfl ?_
    refine XS.iconst X101.here hx rfl (hb hby at_407) ?_
    refine XS.bipush X101.here hx rfl (hb hby at_408) ?_
    refine st103 _ ?_
    refine XS.dup X103.here hx rfl (hb hby at_411) rfl rfl ?_
    refine XS.iconst X103.here hx rfl (hb hby at_412) ?_
    refine XS.bipush X103.here hx rfl (hb hby at_413) ?_
    refine st104 _ ?_
    refine XS.dup X104.here hx rfl (hb hby at_416) rfl rfl ?_
    refine XS.iconst X104.here hx rfl (hb hby at_417) ?_
    refine XS.bipush X104.here hx rfl (hb hby at_418) ?_
    refine st105 _ ?_
    refine XS.dup X105.here hx rfl (hb hby at_421) rfl rfl ?_
    refine XS.iconst X105.here hx rfl (hb hby at_422) ?_
    refine XS.bipush X105.here hx rfl (hb hby at_423) ?_
    refine st106 _ ?_
    refine XS.dup X106.here hx rfl (hb hby at_426) rfl rfl ?_
    refine XS.iconst X106.here hx rfl (hb hby at_427) ?_
    refine XS.bipush X106.here hx rfl (hb hby at_428) ?_
    refine st107 _ ?_
    refine XS.dup X107.here hx rfl (hb hby at_431) rfl rfl ?_
    refine XS.iconst X107.here hx rfl (hb hby at_432) ?_
    refine XS.bipush X107.here hx rfl (hb hby at_433) ?_
    refine st108 _ ?_
    refine XS.dup X108.here hx rfl (hb hby at_436) rfl rfl ?_
    refine XS.bipush X108.here hx rfl (hb hby at_437) ?_
    refine XS.bipush X108.here hx rfl (hb hby at_439) ?_
    refine st109 _ ?_
    refine XS.dup X109.here hx rfl (hb hby at_442) rfl rfl ?_
    refine XS.bipush X109.here hx rfl (hb hby at_443) ?_
    refine XS.bipush X109.here hx rfl (hb hby at_445) ?_
    refine st110 _ ?_
    refine XS.dup X110.here hx rfl (hb hby at_448) rfl rfl ?_
    refine XS.bipush X110.here hx rfl (hb hby at_449) ?_
    refine XS.bipush X110.here hx rfl (hb hby at_451) ?_
    refine st111 _ ?_
    refine XS.dup X111.here hx rfl (hb hby at_454) rfl rfl ?_
    refine XS.bipush X111.here hx rfl (hb hby at_455) ?_
    show SP pg ev below (T111.setTop (mkF mi 457 #[s0, s1, s2, s3, .val (.int c4), .val (.int c5), .val (.int c6), .val (.int c7), s8, s9, s10, s11, s12, s13, s14, s15, s16, s17, s18, .unset] [(.int 9), (.ref b101), (.ref b101)])) _
    refine XS.bipush X111.here hx rfl (hb hby at_457) ?_
    refine st112 _ ?_
    refine XS.dup X112.here hx rfl (hb hby at_460) rfl rfl ?_
    refine XS.bipush X112.here hx rfl (hb hby at_461) ?_
    refine XS.bipush X112.here hx rfl (hb hby at_463) ?_
    refine st113 _ ?_
    refine XS.dup X113.here hx rfl (hb hby at_466) rfl rfl ?_
    refine XS.bipush X113.here hx rfl (hb hby at_467) ?_
    refine XS.bipush X113.here hx rfl (hb hby at_469) ?_
    refine st114 _ ?_
    refine XS.dup X114.here hx rfl (hb hby at_472) rfl rfl ?_
    refine XS.bipush X114.here hx rfl (hb hby at_473) ?_
    refine XS.iload X114.here hx rfl (hb hby at_475) rfl ?_
    refine st115 _ ?_
    refine XS.dup X115.here hx rfl (hb hby at_478) rfl rfl ?_
    refine XS.bipush X115.here hx rfl (hb hby at_479) ?_
    refine XS.iload X115.here hx rfl (hb hby at_481) rfl ?_
    refine st116 _ ?_
    refine XS.dup X116.here hx rfl (hb hby at_484) rfl rfl ?_
    refine XS.bipush X116.here hx rfl (hb hby at_485) ?_
    refine XS.bipush X116.here hx rfl (hb hby at_487) ?_
    refine st117 _ ?_
    refine XS.dup X117.here hx rfl (hb hby at_490) rfl rfl ?_
    refine XS.bipush X117.here hx rfl (hb hby at_491) ?_
    refine XS.iload X117.here hx rfl (hb hby at_493) rfl ?_
    refine st118 _ ?_
    refine XS.dup X118.here hx rfl (hb hby at_496) rfl rfl ?_
    refine XS.bipush X118.here hx rfl (hb hby at_497) ?_
    refine XS.iload X118.here hx rfl (hb hby at_499) rfl ?_
    refine st119 _ ?_
    refine XS.astore X119.here hx rfl (hb hby at_502) rfl rfl (l' := #[s0, s1, s2, s3, .val (.int c4), .val (.int c5), .val (.int c6), .val (.int c7), s8, s9, s10, s11, s12, s13, s14, s15, s16, s17, s18, .val (.ref b101)]) rfl ?_
    refine XS.goto X119.here hx rfl (pc0 := 504) (pc' := 591) rfl (hb hby at_504) (by decide) (by decide) ?_
    exact kk)
  exact ⟨_, _, _, b101, k101, X119, e119, N119, (((((((((((((((((((Keep.refl hE []).ext E101).trans Kq103 (allS (Or.inr (Nat.le_of_eq q101.symm)) all0)).trans Kq104 (allS (Or.inr (Nat.le_of_eq q101.symm)) all0)).trans Kq105 (allS (Or.inr (Nat.le_of_eq q101.symm)) all0)).trans Kq106 (allS (Or.inr (Nat.le_of_eq q101.symm)) all0)).trans Kq107 (allS (Or.inr (Nat.le_of_eq q101.symm)) all0)).trans Kq108 (allS (Or.inr (Nat.le_of_eq q101.symm)) all0)).trans Kq109 (allS (Or.inr (Nat.le_of_eq q101.symm)) all0)).trans Kq110 (allS (Or.inr (Nat.le_of_eq q101.symm)) all0)).trans Kq111 (allS (Or.inr (Nat.le_of_eq q101.symm)) all0)).trans Kq112 (allS (Or.inr (Nat.le_of_eq q101.symm)) all0)).trans Kq113 (allS (Or.inr (Nat.le_of_eq q101.symm)) all0)).trans Kq114 (allS (Or.inr (Nat.le_of_eq q101.symm)) all0)).trans Kq115 (allS (Or.inr (Nat.le_of_eq q101.symm)) all0)).trans Kq116 (allS (Or.inr (Nat.le_of_eq q101.symm)) all0)).trans Kq117 (allS (Or.inr (Nat.le_of_eq q101.symm)) all0)).trans Kq118 (allS (Or.inr (Nat.le_of_eq q101.symm)) all0)).trans Kq119 (allS (Or.inr (Nat.le_of_eq q101.symm)) all0)), (Nat.le_of_eq q101.symm), f119, fun tt kk => pre120 tt kk⟩
theorem sw_fill14 {la : Launch} {Z : State} {a0 : Array Value} (hw : HW a0 Z) (c4 c5 : Int32) (s0 s1 s2 s3 s6 s7 s8 s9 s10 s11 s12 s13 s14 s15 s16 s17 s18 : Slot) (hE : Heap) (n0 : Nat) {pg : Program} {ev : Env} {sb : State} {mi : MethodId} {aa : Array Value} {below : List Frame} {me : Method} {cd : Code} {s₁ : State} {ls : List Loc} (X0 : Stand pg la ev room_1 sb mi aa below me cd s₁ ls 70 10000) (hx : pg.tables.exec = Jvm.exec) (hby : cd.code = code) (hml : cd.maxLocals = 20) (hZ : Z.Warmed39 sb.vm) (hown : sb.vm.findClass c5_ = some mi.cls) (eE : s₁.heap = hE) (N0 : Fr n0 ls) (O : Old Z n0 hE) (hb4 : ¬ (c4 < (0 : Int32)) ∧ ¬ ((255 : Int32) < c4)) (hb5 : ¬ (c5 < (0 : Int32)) ∧ ¬ ((255 : Int32) < c5)) :
    ∃ (T' : State) (h' : Heap) (L' : List Loc) (b : Addr) (kb : ClassId), Stand pg la ev room_1 sb mi aa below me cd T' L' (71) (10014) ∧ T'.heap = h' ∧ Fr n0 L' ∧ Keep hE h' [] ∧ hE.size ≤ b ∧ Arv Z h' b kb .char (14 : Int32) [(.int 106), (.int 97), (.int 118), (.int 97), (.int 58), (.int 109), (.int 111), (.int 100), (.int 117), (.int 108), (.int 101), (.int 47), (.int c4), (.int c5)] (.int 0) ∧ ∀ tt, SP pg ev below (T'.setTop (mkF mi 591 #[s0, s1, s2, s3, .val (.int c4), .val (.int c5), s6, s7, s8, s9, s10, s11, s12, s13, s14, s15, s16, s17, s18, .val (.ref b)] [])) tt → SP pg ev below (s₁.setTop (mkF mi 507 #[s0, s1, s2, s3, .val (.int c4), .val (.int c5), s6, s7, s8, s9, s10, s11, s12, s13, s14, s15, s16, s17, s18, .unset] [])) tt := by
  have pre0 : ∀ tt, SP pg ev below (s₁.setTop (mkF mi 507 #[s0, s1, s2, s3, .val (.int c4), .val (.int c5), s6, s7, s8, s9, s10, s11, s12, s13, s14, s15, s16, s17, s18, .unset] [])) tt → SP pg ev below (s₁.setTop (mkF mi 507 #[s0, s1, s2, s3, .val (.int c4), .val (.int c5), s6, s7, s8, s9, s10, s11, s12, s13, s14, s15, s16, s17, s18, .unset] [])) tt := fun tt kk => kk
  obtain ⟨T101, h101, k101, X101, e101, E101, A101, st101⟩ := newP (aty := .char) X0 hx hZ (wd7 hw) eE (g := (mkF mi 509 #[s0, s1, s2, s3, .val (.int c4), .val (.int c5), s6, s7, s8, s9, s10, s11, s12, s13, s14, s15, s16, s17, s18, .unset] [(.int 14)])) rfl (hb hby at_509) rfl (by decide) (cap := 14) (by decide) (by decide) (by decide) (by decide)
  obtain ⟨b101, q101⟩ : ∃ z, z = hE.size := ⟨_, rfl⟩
  rw [← q101] at A101 st101
  have f102 : Arv Z h101 b101 k101 .char (14 : Int32) [(.int 0), (.int 0), (.int 0), (.int 0), (.int 0), (.int 0), (.int 0), (.int 0), (.int 0), (.int 0), (.int 0), (.int 0), (.int 0), (.int 0)] (.int 0) := (Arv.new A101 (by decide)).pad (pad_rep [] (.int 0) 14)
  have g_b101 : n0 ≤ b101 := Nat.le_trans (Nat.le_trans (Nat.le_of_eq O.1.symm) O.2.1) (Nat.le_of_eq q101.symm)
  obtain ⟨T103, h103, L103, X103, e103, N103, Kq103, f103, st103⟩ := own_sc X101 hx hZ e101 f102 0 (c := (106 : Int32)) (j := (0 : Int32)) rfl rfl (by decide) (Nat.le_of_ble_eq_true rfl) N0 g_b101 (g := (mkF mi 515 #[s0, s1, s2, s3, .val (.int c4), .val (.int c5), s6, s7, s8, s9, s10, s11, s12, s13, s14, s15, s16, s17, s18, .unset] [(.int 106), (.int 0), (.ref b101), (.ref b101)])) rfl rfl (hb hby at_515)
  obtain ⟨T104, h104, L104, X104, e104, N104, Kq104, f104, st104⟩ := own_sc X103 hx hZ e103 f103 1 (c := (97 : Int32)) (j := (1 : Int32)) rfl rfl (by decide) (Nat.le_of_ble_eq_true rfl) N103 g_b101 (g := (mkF mi 520 #[s0, s1, s2, s3, .val (.int c4), .val (.int c5), s6, s7, s8, s9, s10, s11, s12, s13, s14, s15, s16, s17, s18, .unset] [(.int 97), (.int 1), (.ref b101), (.ref b101)])) rfl rfl (hb hby at_520)
  obtain ⟨T105, h105, L105, X105, e105, N105, Kq105, f105, st105⟩ := own_sc X104 hx hZ e104 f104 2 (c := (118 : Int32)) (j := (2 : Int32)) rfl rfl (by decide) (Nat.le_of_ble_eq_true rfl) N104 g_b101 (g := (mkF mi 525 #[s0, s1, s2, s3, .val (.int c4), .val (.int c5), s6, s7, s8, s9, s10, s11, s12, s13, s14, s15, s16, s17, s18, .unset] [(.int 118), (.int 2), (.ref b101), (.ref b101)])) rfl rfl (hb hby at_525)
  obtain ⟨T106, h106, L106, X106, e106, N106, Kq106, f106, st106⟩ := own_sc X105 hx hZ e105 f105 3 (c := (97 : Int32)) (j := (3 : Int32)) rfl rfl (by decide) (Nat.le_of_ble_eq_true rfl) N105 g_b101 (g := (mkF mi 530 #[s0, s1, s2, s3, .val (.int c4), .val (.int c5), s6, s7, s8, s9, s10, s11, s12, s13, s14, s15, s16, s17, s18, .unset] [(.int 97), (.int 3), (.ref b101), (.ref b101)])) rfl rfl (hb hby at_530)
  obtain ⟨T107, h107, L107, X107, e107, N107, Kq107, f107, st107⟩ := own_sc X106 hx hZ e106 f106 4 (c := (58 : Int32)) (j := (4 : Int32)) rfl rfl (by decide) (Nat.le_of_ble_eq_true rfl) N106 g_b101 (g := (mkF mi 535 #[s0, s1, s2, s3, .val (.int c4), .val (.int c5), s6, s7, s8, s9, s10, s11, s12, s13, s14, s15, s16, s17, s18, .unset] [(.int 58), (.int 4), (.ref b101), (.ref b101)])) rfl rfl (hb hby at_535)
  obtain ⟨T108, h108, L108, X108, e108, N108, Kq108, f108, st108⟩ := own_sc X107 hx hZ e107 f107 5 (c := (109 : Int32)) (j := (5 : Int32)) rfl rfl (by decide) (Nat.le_of_ble_eq_true rfl) N107 g_b101 (g := (mkF mi 540 #[s0, s1, s2, s3, .val (.int c4), .val (.int c5), s6, s7, s8, s9, s10, s11, s12, s13, s14, s15, s16, s17, s18, .unset] [(.int 109), (.int 5), (.ref b101), (.ref b101)])) rfl rfl (hb hby at_540)
  obtain ⟨T109, h109, L109, X109, e109, N109, Kq109, f109, st109⟩ := own_sc X108 hx hZ e108 f108 6 (c := (111 : Int32)) (j := (6 : Int32)) rfl rfl (by decide) (Nat.le_of_ble_eq_true rfl) N108 g_b101 (g := (mkF mi 546 #[s0, s1, s2, s3, .val (.int c4), .val (.int c5), s6, s7, s8, s9, s10, s11, s12, s13, s14, s15, s16, s17, s18, .unset] [(.int 111), (.int 6), (.ref b101), (.ref b101)])) rfl rfl (hb hby at_546)
  obtain ⟨T110, h110, L110, X110, e110, N110, Kq110, f110, st110⟩ := own_sc X109 hx hZ e109 f109 7 (c := (100 : Int32)) (j := (7 : Int32)) rfl rfl (by decide) (Nat.le_of_ble_eq_true rfl) N109 g_b101 (g := (mkF mi 552 #[s0, s1, s2, s3, .val (.int c4), .val (.int c5), s6, s7, s8, s9, s10, s11, s12, s13, s14, s15, s16, s17, s18, .unset] [(.int 100), (.int 7), (.ref b101), (.ref b101)])) rfl rfl (hb hby at_552)
  obtain ⟨T111, h111, L111, X111, e111, N111, Kq111, f111, st111⟩ := own_sc X110 hx hZ e110 f110 8 (c := (117 : Int32)) (j := (8 : Int32)) rfl rfl (by decide) (Nat.le_of_ble_eq_true rfl) N110 g_b101 (g := (mkF mi 558 #[s0, s1, s2, s3, .val (.int c4), .val (.int c5), s6, s7, s8, s9, s10, s11, s12, s13, s14, s15, s16, s17, s18, .unset] [(.int 117), (.int 8), (.ref b101), (.ref b101)])) rfl rfl (hb hby at_558)
  obtain ⟨T112, h112, L112, X112, e112, N112, Kq112, f112, st112⟩ := own_sc X111 hx hZ e111 f111 9 (c := (108 : Int32)) (j := (9 : Int32)) rfl rfl (by decide) (Nat.le_of_ble_eq_true rfl) N111 g_b101 (g := (mkF mi 564 #[s0, s1, s2, s3, .val (.int c4), .val (.int c5), s6, s7, s8, s9, s10, s11, s12, s13, s14, s15, s16, s17, s18, .unset] [(.int 108), (.int 9), (.ref b101), (.ref b101)])) rfl rfl (hb hby at_564)
  obtain ⟨T113, h113, L113, X113, e113, N113, Kq113, f113, st113⟩ := own_sc X112 hx hZ e112 f112 10 (c := (101 : Int32)) (j := (10 : Int32)) rfl rfl (by decide) (Nat.le_of_ble_eq_true rfl) N112 g_b101 (g := (mkF mi 570 #[s0, s1, s2, s3, .val (.int c4), .val (.int c5), s6, s7, s8, s9, s10, s11, s12, s13, s14, s15, s16, s17, s18, .unset] [(.int 101), (.int 10), (.ref b101), (.ref b101)])) rfl rfl (hb hby at_570)
  obtain ⟨T114, h114, L114, X114, e114, N114, Kq114, f114, st114⟩ := own_sc X113 hx hZ e113 f113 11 (c := (47 : Int32)) (j := (11 : Int32)) rfl rfl (by decide) (Nat.le_of_ble_eq_true rfl) N113 g_b101 (g := (mkF mi 576 #[s0, s1, s2, s3, .val (.int c4), .val (.int c5), s6, s7, s8, s9, s10, s11, s12, s13, s14, s15, s16, s17, s18, .unset] [(.int 47), (.int 11), (.ref b101), (.ref b101)])) rfl rfl (hb hby at_576)
  obtain ⟨T115, h115, L115, X115, e115, N115, Kq115, f115, st115⟩ := own_sc X114 hx hZ e114 f114 12 (c := c4) (j := (12 : Int32)) (own_nar_c hb4) rfl (by decide) (Nat.le_of_ble_eq_true rfl) N114 g_b101 (g := (mkF mi 582 #[s0, s1, s2, s3, .val (.int c4), .val (.int c5), s6, s7, s8, s9, s10, s11, s12, s13, s14, s15, s16, s17, s18, .unset] [(.int c4), (.int 12), (.ref b101), (.ref b101)])) rfl rfl (hb hby at_582)
  obtain ⟨T116, h116, L116, X116, e116, N116, Kq116, f116, st116⟩ := own_sc X115 hx hZ e115 f115 13 (c := c5) (j := (13 : Int32)) (own_nar_c hb5) rfl (by decide) (Nat.le_of_ble_eq_true rfl) N115 g_b101 (g := (mkF mi 588 #[s0, s1, s2, s3, .val (.int c4), .val (.int c5), s6, s7, s8, s9, s10, s11, s12, s13, s14, s15, s16, s17, s18, .unset] [(.int c5), (.int 13), (.ref b101), (.ref b101)])) rfl rfl (hb hby at_588)
  have pre117 : ∀ tt, SP pg ev below (T116.setTop (mkF mi 591 #[s0, s1, s2, s3, .val (.int c4), .val (.int c5), s6, s7, s8, s9, s10, s11, s12, s13, s14, s15, s16, s17, s18, .val (.ref b101)] [])) tt → SP pg ev below (s₁.setTop (mkF mi 507 #[s0, s1, s2, s3, .val (.int c4), .val (.int c5), s6, s7, s8, s9, s10, s11, s12, s13, s14, s15, s16, s17, s18, .unset] [])) tt := fun tt kk => pre0 _ (by
    show SP pg ev below (s₁.setTop (mkF mi 507 #[s0, s1, s2, s3, .val (.int c4), .val (.int c5), s6, s7, s8, s9, s10, s11, s12, s13, s14, s15, s16, s17, s18, .unset] [])) _
    refine XS.bipush X0.here hx rfl (hb hby at_507) ?_
    refine st101 _ ?_
    refine XS.dup X101.here hx rfl (hb hby at_511) rfl rfl ?_
    refine XS.iconst X101.here hx rfl (hb hby at_512) ?_
    refine XS.bipush X101.here hx rfl (hb hby at_513) ?_
    refine st103 _ ?_
    refine XS.dup X103.here hx rfl (hb hby at_516) rfl rfl ?_
    refine XS.iconst X103.here hx rfl (hb hby at_517) ?_
    refine XS.bipush X103.here hx rfl (hb hby at_518) ?_
    refine st104 _ ?_
    refine XS.dup X104.here hx rfl (hb hby at_521) rfl rfl ?_
    refine XS.iconst X104.here hx rfl (hb hby at_522) ?_
    refine XS.bipush X104.here hx rfl (hb hby at_523) ?_
    refine st105 _ ?_
    refine XS.dup X105.here hx rfl (hb hby at_526) rfl rfl ?_
    refine XS.iconst X105.here hx rfl (hb hby at_527) ?_
    refine XS.bipush X105.here hx rfl (hb hby at_528) ?_
    refine st106 _ ?_
    refine XS.dup X106.here hx rfl (hb hby at_531) rfl rfl ?_
    refine XS.iconst X106.here hx rfl (hb hby at_532) ?_
    refine XS.bipush X106.here hx rfl (hb hby at_533) ?_
    refine st107 _ ?_
    refine XS.dup X107.here hx rfl (hb hby at_536) rfl rfl ?_
    refine XS.iconst X107.here hx rfl (hb hby at_537) ?_
    refine XS.bipush X107.here hx rfl (hb hby at_538) ?_
    refine st108 _ ?_
    refine XS.dup X108.here hx rfl (hb hby at_541) rfl rfl ?_
    refine XS.bipush X108.here hx rfl (hb hby at_542) ?_
    refine XS.bipush X108.here hx rfl (hb hby at_544) ?_
    refine st109 _ ?_
    refine XS.dup X109.here hx rfl (hb hby at_547) rfl rfl ?_
    refine XS.bipush X109.here hx rfl (hb hby at_548) ?_
    refine XS.bipush X109.here hx rfl (hb hby at_550) ?_
    refine st110 _ ?_
    refine XS.dup X110.here hx rfl (hb hby at_553) rfl rfl ?_
    refine XS.bipush X110.here hx rfl (hb hby at_554) ?_
    refine XS.bipush X110.here hx rfl (hb hby at_556) ?_
    refine st111 _ ?_
    refine XS.dup X111.here hx rfl (hb hby at_559) rfl rfl ?_
    refine XS.bipush X111.here hx rfl (hb hby at_560) ?_
    show SP pg ev below (T111.setTop (mkF mi 562 #[s0, s1, s2, s3, .val (.int c4), .val (.int c5), s6, s7, s8, s9, s10, s11, s12, s13, s14, s15, s16, s17, s18, .unset] [(.int 9), (.ref b101), (.ref b101)])) _
    refine XS.bipush X111.here hx rfl (hb hby at_562) ?_
    refine st112 _ ?_
    refine XS.dup X112.here hx rfl (hb hby at_565) rfl rfl ?_
    refine XS.bipush X112.here hx rfl (hb hby at_566) ?_
    refine XS.bipush X112.here hx rfl (hb hby at_568) ?_
    refine st113 _ ?_
    refine XS.dup X113.here hx rfl (hb hby at_571) rfl rfl ?_
    refine XS.bipush X113.here hx rfl (hb hby at_572) ?_
    refine XS.bipush X113.here hx rfl (hb hby at_574) ?_
    refine st114 _ ?_
    refine XS.dup X114.here hx rfl (hb hby at_577) rfl rfl ?_
    refine XS.bipush X114.here hx rfl (hb hby at_578) ?_
    refine XS.iload X114.here hx rfl (hb hby at_580) rfl ?_
    refine st115 _ ?_
    refine XS.dup X115.here hx rfl (hb hby at_583) rfl rfl ?_
    refine XS.bipush X115.here hx rfl (hb hby at_584) ?_
    refine XS.iload X115.here hx rfl (hb hby at_586) rfl ?_
    refine st116 _ ?_
    refine XS.astore X116.here hx rfl (hb hby at_589) rfl rfl (l' := #[s0, s1, s2, s3, .val (.int c4), .val (.int c5), s6, s7, s8, s9, s10, s11, s12, s13, s14, s15, s16, s17, s18, .val (.ref b101)]) rfl ?_
    exact kk)
  exact ⟨_, _, _, b101, k101, X116, e116, N116, ((((((((((((((((Keep.refl hE []).ext E101).trans Kq103 (allS (Or.inr (Nat.le_of_eq q101.symm)) all0)).trans Kq104 (allS (Or.inr (Nat.le_of_eq q101.symm)) all0)).trans Kq105 (allS (Or.inr (Nat.le_of_eq q101.symm)) all0)).trans Kq106 (allS (Or.inr (Nat.le_of_eq q101.symm)) all0)).trans Kq107 (allS (Or.inr (Nat.le_of_eq q101.symm)) all0)).trans Kq108 (allS (Or.inr (Nat.le_of_eq q101.symm)) all0)).trans Kq109 (allS (Or.inr (Nat.le_of_eq q101.symm)) all0)).trans Kq110 (allS (Or.inr (Nat.le_of_eq q101.symm)) all0)).trans Kq111 (allS (Or.inr (Nat.le_of_eq q101.symm)) all0)).trans Kq112 (allS (Or.inr (Nat.le_of_eq q101.symm)) all0)).trans Kq113 (allS (Or.inr (Nat.le_of_eq q101.symm)) all0)).trans Kq114 (allS (Or.inr (Nat.le_of_eq q101.symm)) all0)).trans Kq115 (allS (Or.inr (Nat.le_of_eq q101.symm)) all0)).trans Kq116 (allS (Or.inr (Nat.le_of_eq q101.symm)) all0)), (Nat.le_of_eq q101.symm), f116, fun tt kk => pre117 tt kk⟩
theorem pd_30 : parseMethodDescriptor "(I)C" = some ⟨[.int], some .char⟩ := by decide +kernel
theorem pd_31 : parseMethodDescriptor "([C)V" = some ⟨[(.array .char)], none⟩ := by decide +kernel
theorem pd_32 : parseMethodDescriptor "(Ljava/lang/Object;)Z" = some ⟨[(.object "java/lang/Object")], some .boolean⟩ := by decide +kernel
theorem ef_law (mi : MethodId) (x0 : Int32) (x1 : Int32) (x2 : Int32) (x3 : Int32) : entryFrame mi #[(.int x0), (.int x1), (.int x2), (.int x3)] maxLocals = mkF mi 0 #[.val (.int x0), .val (.int x1), .val (.int x2), .val (.int x3), .unset, .unset, .unset, .unset, .unset, .unset, .unset, .unset, .unset, .unset, .unset, .unset, .unset, .unset, .unset, .unset] [] := by first | (simp [entryFrame, mkF, argsToLocals, Value.category, maxLocals]; done) | rfl
def Q_law (Z : State) (x0 x1 x2 x3 zc : Int32) (hE : Heap) (n0 : Nat) (vv : Option Value) (hh : Heap) (LL : List Loc) : Prop := (vv = some (.int 1)) ∧ (Fr n0 LL)
theorem rm_law (hw : HW a0 Z) (ws : List Cond) (x0 x1 x2 x3 zc : Int32) (hE : Heap) (n0 : Nat) (O : Old Z n0 hE) (D0_ : Sta Z Z.heap c1_ c6_ "Z" (.int zc)) (hzc : ¬ (zc = (0 : Int32))) :
    MetFree la x (head1 (Cond.code x code maxLocals ret :: ws) room_1) (fun aa UU => aa = #[(.int x0), (.int x1), (.int x2), (.int x3)] ∧ Z.Warmed39 UU.vm ∧ UU.heap = hE ∧ CHv Z ELs UU.vm hE) (fun _ _ _ _ _ => True) (fun _ UU oo UV => ∃ vv LL, oo = .returned vv ∧ Q_law Z x0 x1 x2 x3 zc hE n0 vv UV.heap LL ∧ CHr Z ELs UU.vm UU.heap UV.vm UV.heap ∧ ReturnedEndW UU oo UV LL room_1.cells room_1.slots) := by
  refine MetFree.of_bodySF (plainFor_of_name pn_com_example_beanloft_beanloft_naming_GlobalNameInModulePinLaw) hisR ?_
  intro pg ev sb mi gs below me cd s₁ Bd hml0 hPt hKt
  obtain ⟨rfl, hZ, hh, hH⟩ := hPt
  have hx := Bd.exec
  have hby := Bd.bytes
  have hml : cd.maxLocals = 20 := hml0
  have hown : sb.vm.findClass c5_ = some mi.cls := findClass_of_methodNamed Bd.named
  have X0 : Stand pg la ev room_1 (sb.setVm sb.vm) mi #[(.int x0), (.int x1), (.int x2), (.int x3)] below me cd s₁ [] 0 0 := Stand.of_body Bd
  have eE : s₁.heap = hE := by rw [← hh, Bd.state]; rfl
  have N0 := Fr.nil n0
  have pre0 : ∀ tt, SP pg ev below (s₁.setTop (mkF mi 0 #[.val (.int x0), .val (.int x1), .val (.int x2), .val (.int x3), .unset, .unset, .unset, .unset, .unset, .unset, .unset, .unset, .unset, .unset, .unset, .unset, .unset, .unset, .unset, .unset] [])) tt → SP pg ev below (s₁.setTop (entryFrame mi #[(.int x0), (.int x1), (.int x2), (.int x3)] maxLocals)) tt := fun tt kk => castTop (ef_law mi x0 x1 x2 x3) kk
  have hS : sb.Since sb.vm 0 := (State.WarmedH.refl sb).since 0
  have hk : 0 ≤ hE.size := Nat.zero_le _
  have hEL := own_EW hw
  have C0 := CHr.refl hH
  obtain ⟨v101, _, ⟨T101, L101, k101, n101⟩, -, X101, ⟨Lc101, hQ101, l101, y101, z101⟩, st101⟩ := Jvm.LawKit.callS X0 hx (y := mn25) hown (mvT hZ (wd0 hw)) (mvT hZ (wd1 hw)) (mvT hZ (wd2 hw)) (mvT hZ (wd3 hw)) (by decide) (backOf (W := 0) (rm_chc la Z a0 hw [] x0 hE n0 O) hZ (wd3 hw) (wd2 hw) (by decide) (by decide)) (g := (mkF mi 1 #[.val (.int x0), .val (.int x1), .val (.int x2), .val (.int x3), .unset, .unset, .unset, .unset, .unset, .unset, .unset, .unset, .unset, .unset, .unset, .unset, .unset, .unset, .unset, .unset] [(.int x0)])) rfl (by rw [hml]; rfl) (argsL := [(.int x0)]) (rest := []) (lenOf pd_30 rfl) rfl (Nat.le_of_ble_eq_true rfl) (hb hby at_1) (fun _ _ => ⟨rfl, eE, (by decide : 0 + 0 ≤ _), (by decide : 0 + 0 ≤ _)⟩)
  dsimp only [Pt.U, Pt.locs, Pt.cells, Pt.slots] at X101 l101 y101 z101 st101 hQ101
  subst l101 y101 z101
  obtain ⟨rfl, Nq101, ek101⟩ := hQ101
  have N101 := Fr.app N0 Nq101
  obtain ⟨d4, he_d4⟩ : ∃ z, z = (chF x0) := ⟨_, rfl⟩
  have pre102 : ∀ tt, SP pg ev below (T101.setTop (mkF mi 4 #[.val (.int x0), .val (.int x1), .val (.int x2), .val (.int x3), .unset, .unset, .unset, .unset, .unset, .unset, .unset, .unset, .unset, .unset, .unset, .unset, .unset, .unset, .unset, .unset] [(.int (chF x0))])) tt → SP pg ev below (s₁.setTop (entryFrame mi #[(.int x0), (.int x1), (.int x2), (.int x3)] maxLocals)) tt := fun tt kk => pre0 _ (by
    show SP pg ev below (s₁.setTop (mkF mi 0 #[.val (.int x0), .val (.int x1), .val (.int x2), .val (.int x3), .unset, .unset, .unset, .unset, .unset, .unset, .unset, .unset, .unset, .unset, .unset, .unset, .unset, .unset, .unset, .unset] [])) _
    refine XS.iloadN X0.here hx rfl (hb hby at_0) rfl ?_
    refine st101 _ ?_
    exact kk)
  have pre103 : ∀ tt, SP pg ev below (T101.setTop (mkF mi 4 #[.val (.int x0), .val (.int x1), .val (.int x2), .val (.int x3), .unset, .unset, .unset, .unset, .unset, .unset, .unset, .unset, .unset, .unset, .unset, .unset, .unset, .unset, .unset, .unset] [(.int d4)])) tt → SP pg ev below (s₁.setTop (entryFrame mi #[(.int x0), (.int x1), (.int x2), (.int x3)] maxLocals)) tt := fun tt kk => pre102 tt (by rw [← he_d4]; exact kk)
  have o_d4 : ¬ (d4 < (0 : Int32)) ∧ ¬ ((255 : Int32) < d4) ∧ ¬ (d4 = (47 : Int32)) ∧ ¬ (d4 = (33 : Int32)) := he_d4 ▸ own_chB _
  have z_d4 : ¬ (d4 < (0 : Int32)) := o_d4.1
  have y_d4 : ¬ ((255 : Int32) < d4) := o_d4.2.1
  have zy_d4 : ¬ (d4 < (0 : Int32)) ∧ ¬ ((255 : Int32) < d4) := ⟨z_d4, y_d4⟩
  have s47_d4 : ¬ ((d4.toInt8.toInt32) = (47 : Int32)) := own_ch_byte z_d4 y_d4 (by decide) o_d4.2.2.1
  have s33_d4 : ¬ ((d4.toInt8.toInt32) = (33 : Int32)) := own_ch_byte z_d4 y_d4 (by decide) o_d4.2.2.2
  obtain ⟨v104, _, ⟨T104, L104, k104, n104⟩, -, X104, ⟨Lc104, hQ104, l104, y104, z104⟩, st104⟩ := Jvm.LawKit.callS X101 hx (y := mn25) hown (mvT hZ (wd0 hw)) (mvT hZ (wd1 hw)) (mvT hZ (wd2 hw)) (mvT hZ (wd3 hw)) (by decide) (backOf (W := 0) (rm_chc la Z a0 hw [] ((x0.toUInt32 >>> ((8 : Int32) &&& 31).toUInt32).toInt32) hE n0 O) hZ (wd3 hw) (wd2 hw) (by decide) (by decide)) (g := (mkF mi 10 #[.val (.int x0), .val (.int x1), .val (.int x2), .val (.int x3), .val (.int d4), .unset, .unset, .unset, .unset, .unset, .unset, .unset, .unset, .unset, .unset, .unset, .unset, .unset, .unset, .unset] [(.int ((x0.toUInt32 >>> ((8 : Int32) &&& 31).toUInt32).toInt32))])) rfl (by rw [hml]; rfl) (argsL := [(.int ((x0.toUInt32 >>> ((8 : Int32) &&& 31).toUInt32).toInt32))]) (rest := []) (lenOf pd_30 rfl) rfl (Nat.le_of_ble_eq_true rfl) (hb hby at_10) (fun _ _ => ⟨rfl, ek101, (by decide : 0 + 0 ≤ _), (by decide : 0 + 0 ≤ _)⟩)
  dsimp only [Pt.U, Pt.locs, Pt.cells, Pt.slots] at X104 l104 y104 z104 st104 hQ104
  subst l104 y104 z104
  obtain ⟨rfl, Nq104, ek104⟩ := hQ104
  have N104 := Fr.app N101 Nq104
  obtain ⟨d5, he_d5⟩ : ∃ z, z = (chF ((x0.toUInt32 >>> ((8 : Int32) &&& 31).toUInt32).toInt32)) := ⟨_, rfl⟩
  have pre105 : ∀ tt, SP pg ev below (T104.setTop (mkF mi 13 #[.val (.int x0), .val (.int x1), .val (.int x2), .val (.int x3), .val (.int d4), .unset, .unset, .unset, .unset, .unset, .unset, .unset, .unset, .unset, .unset, .unset, .unset, .unset, .unset, .unset] [(.int (chF ((x0.toUInt32 >>> ((8 : Int32) &&& 31).toUInt32).toInt32)))])) tt → SP pg ev below (s₁.setTop (entryFrame mi #[(.int x0), (.int x1), (.int x2), (.int x3)] maxLocals)) tt := fun tt kk => pre103 _ (by
    show SP pg ev below (T101.setTop (mkF mi 4 #[.val (.int x0), .val (.int x1), .val (.int x2), .val (.int x3), .unset, .unset, .unset, .unset, .unset, .unset, .unset, .unset, .unset, .unset, .unset, .unset, .unset, .unset, .unset, .unset] [(.int d4)])) _
    refine XS.istore X101.here hx rfl (hb hby at_4) rfl (l' := #[.val (.int x0), .val (.int x1), .val (.int x2), .val (.int x3), .val (.int d4), .unset, .unset, .unset, .unset, .unset, .unset, .unset, .unset, .unset, .unset, .unset, .unset, .unset, .unset, .unset]) rfl ?_
    refine XS.iloadN X101.here hx rfl (hb hby at_6) rfl ?_
    refine XS.bipush X101.here hx rfl (hb hby at_7) ?_
    refine XS.iushr X101.here hx rfl (hb hby at_9) rfl ?_
    refine st104 _ ?_
    exact kk)
  have pre106 : ∀ tt, SP pg ev below (T104.setTop (mkF mi 13 #[.val (.int x0), .val (.int x1), .val (.int x2), .val (.int x3), .val (.int d4), .unset, .unset, .unset, .unset, .unset, .unset, .unset, .unset, .unset, .unset, .unset, .unset, .unset, .unset, .unset] [(.int d5)])) tt → SP pg ev below (s₁.setTop (entryFrame mi #[(.int x0), (.int x1), (.int x2), (.int x3)] maxLocals)) tt := fun tt kk => pre105 tt (by rw [← he_d5]; exact kk)
  have o_d5 : ¬ (d5 < (0 : Int32)) ∧ ¬ ((255 : Int32) < d5) ∧ ¬ (d5 = (47 : Int32)) ∧ ¬ (d5 = (33 : Int32)) := he_d5 ▸ own_chB _
  have z_d5 : ¬ (d5 < (0 : Int32)) := o_d5.1
  have y_d5 : ¬ ((255 : Int32) < d5) := o_d5.2.1
  have zy_d5 : ¬ (d5 < (0 : Int32)) ∧ ¬ ((255 : Int32) < d5) := ⟨z_d5, y_d5⟩
  have s47_d5 : ¬ ((d5.toInt8.toInt32) = (47 : Int32)) := own_ch_byte z_d5 y_d5 (by decide) o_d5.2.2.1
  have s33_d5 : ¬ ((d5.toInt8.toInt32) = (33 : Int32)) := own_ch_byte z_d5 y_d5 (by decide) o_d5.2.2.2
  obtain ⟨v107, _, ⟨T107, L107, k107, n107⟩, -, X107, ⟨Lc107, hQ107, l107, y107, z107⟩, st107⟩ := Jvm.LawKit.callS X104 hx (y := mn25) hown (mvT hZ (wd0 hw)) (mvT hZ (wd1 hw)) (mvT hZ (wd2 hw)) (mvT hZ (wd3 hw)) (by decide) (backOf (W := 0) (rm_chc la Z a0 hw [] x1 hE n0 O) hZ (wd3 hw) (wd2 hw) (by decide) (by decide)) (g := (mkF mi 16 #[.val (.int x0), .val (.int x1), .val (.int x2), .val (.int x3), .val (.int d4), .val (.int d5), .unset, .unset, .unset, .unset, .unset, .unset, .unset, .unset, .unset, .unset, .unset, .unset, .unset, .unset] [(.int x1)])) rfl (by rw [hml]; rfl) (argsL := [(.int x1)]) (rest := []) (lenOf pd_30 rfl) rfl (Nat.le_of_ble_eq_true rfl) (hb hby at_16) (fun _ _ => ⟨rfl, ek104, (by decide : 0 + 0 ≤ _), (by decide : 0 + 0 ≤ _)⟩)
  dsimp only [Pt.U, Pt.locs, Pt.cells, Pt.slots] at X107 l107 y107 z107 st107 hQ107
  subst l107 y107 z107
  obtain ⟨rfl, Nq107, ek107⟩ := hQ107
  have N107 := Fr.app N104 Nq107
  obtain ⟨d6, he_d6⟩ : ∃ z, z = (chF x1) := ⟨_, rfl⟩
  have pre108 : ∀ tt, SP pg ev below (T107.setTop (mkF mi 19 #[.val (.int x0), .val (.int x1), .val (.int x2), .val (.int x3), .val (.int d4), .val (.int d5), .unset, .unset, .unset, .unset, .unset, .unset, .unset, .unset, .unset, .unset, .unset, .unset, .unset, .unset] [(.int (chF x1))])) tt → SP pg ev below (s₁.setTop (entryFrame mi #[(.int x0), (.int x1), (.int x2), (.int x3)] maxLocals)) tt := fun tt kk => pre106 _ (by
    show SP pg ev below (T104.setTop (mkF mi 13 #[.val (.int x0), .val (.int x1), .val (.int x2), .val (.int x3), .val (.int d4), .unset, .unset, .unset, .unset, .unset, .unset, .unset, .unset, .unset, .unset, .unset, .unset, .unset, .unset, .unset] [(.int d5)])) _
    refine XS.istore X104.here hx rfl (hb hby at_13) rfl (l' := #[.val (.int x0), .val (.int x1), .val (.int x2), .val (.int x3), .val (.int d4), .val (.int d5), .unset, .unset, .unset, .unset, .unset, .unset, .unset, .unset, .unset, .unset, .unset, .unset, .unset, .unset]) rfl ?_
    refine XS.iloadN X104.here hx rfl (hb hby at_15) rfl ?_
    refine st107 _ ?_
    exact kk)
  have pre109 : ∀ tt, SP pg ev below (T107.setTop (mkF mi 19 #[.val (.int x0), .val (.int x1), .val (.int x2), .val (.int x3), .val (.int d4), .val (.int d5), .unset, .unset, .unset, .unset, .unset, .unset, .unset, .unset, .unset, .unset, .unset, .unset, .unset, .unset] [(.int d6)])) tt → SP pg ev below (s₁.setTop (entryFrame mi #[(.int x0), (.int x1), (.int x2), (.int x3)] maxLocals)) tt := fun tt kk => pre108 tt (by rw [← he_d6]; exact kk)
  have o_d6 : ¬ (d6 < (0 : Int32)) ∧ ¬ ((255 : Int32) < d6) ∧ ¬ (d6 = (47 : Int32)) ∧ ¬ (d6 = (33 : Int32)) := he_d6 ▸ own_chB _
  have z_d6 : ¬ (d6 < (0 : Int32)) := o_d6.1
  have y_d6 : ¬ ((255 : Int32) < d6) := o_d6.2.1
  have zy_d6 : ¬ (d6 < (0 : Int32)) ∧ ¬ ((255 : Int32) < d6) := ⟨z_d6, y_d6⟩
  have s47_d6 : ¬ ((d6.toInt8.toInt32) = (47 : Int32)) := own_ch_byte z_d6 y_d6 (by decide) o_d6.2.2.1
  have s33_d6 : ¬ ((d6.toInt8.toInt32) = (33 : Int32)) := own_ch_byte z_d6 y_d6 (by decide) o_d6.2.2.2
  obtain ⟨v110, _, ⟨T110, L110, k110, n110⟩, -, X110, ⟨Lc110, hQ110, l110, y110, z110⟩, st110⟩ := Jvm.LawKit.callS X107 hx (y := mn25) hown (mvT hZ (wd0 hw)) (mvT hZ (wd1 hw)) (mvT hZ (wd2 hw)) (mvT hZ (wd3 hw)) (by decide) (backOf (W := 0) (rm_chc la Z a0 hw [] ((x1.toUInt32 >>> ((8 : Int32) &&& 31).toUInt32).toInt32) hE n0 O) hZ (wd3 hw) (wd2 hw) (by decide) (by decide)) (g := (mkF mi 25 #[.val (.int x0), .val (.int x1), .val (.int x2), .val (.int x3), .val (.int d4), .val (.int d5), .val (.int d6), .unset, .unset, .unset, .unset, .unset, .unset, .unset, .unset, .unset, .unset, .unset, .unset, .unset] [(.int ((x1.toUInt32 >>> ((8 : Int32) &&& 31).toUInt32).toInt32))])) rfl (by rw [hml]; rfl) (argsL := [(.int ((x1.toUInt32 >>> ((8 : Int32) &&& 31).toUInt32).toInt32))]) (rest := []) (lenOf pd_30 rfl) rfl (Nat.le_of_ble_eq_true rfl) (hb hby at_25) (fun _ _ => ⟨rfl, ek107, (by decide : 0 + 0 ≤ _), (by decide : 0 + 0 ≤ _)⟩)
  dsimp only [Pt.U, Pt.locs, Pt.cells, Pt.slots] at X110 l110 y110 z110 st110 hQ110
  subst l110 y110 z110
  obtain ⟨rfl, Nq110, ek110⟩ := hQ110
  have N110 := Fr.app N107 Nq110
  obtain ⟨d7, he_d7⟩ : ∃ z, z = (chF ((x1.toUInt32 >>> ((8 : Int32) &&& 31).toUInt32).toInt32)) := ⟨_, rfl⟩
  have pre111 : ∀ tt, SP pg ev below (T110.setTop (mkF mi 28 #[.val (.int x0), .val (.int x1), .val (.int x2), .val (.int x3), .val (.int d4), .val (.int d5), .val (.int d6), .unset, .unset, .unset, .unset, .unset, .unset, .unset, .unset, .unset, .unset, .unset, .unset, .unset] [(.int (chF ((x1.toUInt32 >>> ((8 : Int32) &&& 31).toUInt32).toInt32)))])) tt → SP pg ev below (s₁.setTop (entryFrame mi #[(.int x0), (.int x1), (.int x2), (.int x3)] maxLocals)) tt := fun tt kk => pre109 _ (by
    show SP pg ev below (T107.setTop (mkF mi 19 #[.val (.int x0), .val (.int x1), .val (.int x2), .val (.int x3), .val (.int d4), .val (.int d5), .unset, .unset, .unset, .unset, .unset, .unset, .unset, .unset, .unset, .unset, .unset, .unset, .unset, .unset] [(.int d6)])) _
    refine XS.istore X107.here hx rfl (hb hby at_19) rfl (l' := #[.val (.int x0), .val (.int x1), .val (.int x2), .val (.int x3), .val (.int d4), .val (.int d5), .val (.int d6), .unset, .unset, .unset, .unset, .unset, .unset, .unset, .unset, .unset, .unset, .unset, .unset, .unset]) rfl ?_
    refine XS.iloadN X107.here hx rfl (hb hby at_21) rfl ?_
    refine XS.bipush X107.here hx rfl (hb hby at_22) ?_
    refine XS.iushr X107.here hx rfl (hb hby at_24) rfl ?_
    refine st110 _ ?_
    exact kk)
  have pre112 : ∀ tt, SP pg ev below (T110.setTop (mkF mi 28 #[.val (.int x0), .val (.int x1), .val (.int x2), .val (.int x3), .val (.int d4), .val (.int d5), .val (.int d6), .unset, .unset, .unset, .unset, .unset, .unset, .unset, .unset, .unset, .unset, .unset, .unset, .unset] [(.int d7)])) tt → SP pg ev below (s₁.setTop (entryFrame mi #[(.int x0), (.int x1), (.int x2), (.int x3)] maxLocals)) tt := fun tt kk => pre111 tt (by rw [← he_d7]; exact kk)
  have o_d7 : ¬ (d7 < (0 : Int32)) ∧ ¬ ((255 : Int32) < d7) ∧ ¬ (d7 = (47 : Int32)) ∧ ¬ (d7 = (33 : Int32)) := he_d7 ▸ own_chB _
  have z_d7 : ¬ (d7 < (0 : Int32)) := o_d7.1
  have y_d7 : ¬ ((255 : Int32) < d7) := o_d7.2.1
  have zy_d7 : ¬ (d7 < (0 : Int32)) ∧ ¬ ((255 : Int32) < d7) := ⟨z_d7, y_d7⟩
  have s47_d7 : ¬ ((d7.toInt8.toInt32) = (47 : Int32)) := own_ch_byte z_d7 y_d7 (by decide) o_d7.2.2.1
  have s33_d7 : ¬ ((d7.toInt8.toInt32) = (33 : Int32)) := own_ch_byte z_d7 y_d7 (by decide) o_d7.2.2.2
  obtain ⟨v113, _, ⟨T113, L113, k113, n113⟩, -, X113, ⟨Lc113, hQ113, l113, y113, z113⟩, st113⟩ := Jvm.LawKit.callS X110 hx (y := mn25) hown (mvT hZ (wd0 hw)) (mvT hZ (wd1 hw)) (mvT hZ (wd2 hw)) (mvT hZ (wd3 hw)) (by decide) (backOf (W := 0) (rm_chc la Z a0 hw [] x2 hE n0 O) hZ (wd3 hw) (wd2 hw) (by decide) (by decide)) (g := (mkF mi 31 #[.val (.int x0), .val (.int x1), .val (.int x2), .val (.int x3), .val (.int d4), .val (.int d5), .val (.int d6), .val (.int d7), .unset, .unset, .unset, .unset, .unset, .unset, .unset, .unset, .unset, .unset, .unset, .unset] [(.int x2)])) rfl (by rw [hml]; rfl) (argsL := [(.int x2)]) (rest := []) (lenOf pd_30 rfl) rfl (Nat.le_of_ble_eq_true rfl) (hb hby at_31) (fun _ _ => ⟨rfl, ek110, (by decide : 0 + 0 ≤ _), (by decide : 0 + 0 ≤ _)⟩)
  dsimp only [Pt.U, Pt.locs, Pt.cells, Pt.slots] at X113 l113 y113 z113 st113 hQ113
  subst l113 y113 z113
  obtain ⟨rfl, Nq113, ek113⟩ := hQ113
  have N113 := Fr.app N110 Nq113
  obtain ⟨d8, he_d8⟩ : ∃ z, z = (chF x2) := ⟨_, rfl⟩
  have pre114 : ∀ tt, SP pg ev below (T113.setTop (mkF mi 34 #[.val (.int x0), .val (.int x1), .val (.int x2), .val (.int x3), .val (.int d4), .val (.int d5), .val (.int d6), .val (.int d7), .unset, .unset, .unset, .unset, .unset, .unset, .unset, .unset, .unset, .unset, .unset, .unset] [(.int (chF x2))])) tt → SP pg ev below (s₁.setTop (entryFrame mi #[(.int x0), (.int x1), (.int x2), (.int x3)] maxLocals)) tt := fun tt kk => pre112 _ (by
    show SP pg ev below (T110.setTop (mkF mi 28 #[.val (.int x0), .val (.int x1), .val (.int x2), .val (.int x3), .val (.int d4), .val (.int d5), .val (.int d6), .unset, .unset, .unset, .unset, .unset, .unset, .unset, .unset, .unset, .unset, .unset, .unset, .unset] [(.int d7)])) _
    refine XS.istore X110.here hx rfl (hb hby at_28) rfl (l' := #[.val (.int x0), .val (.int x1), .val (.int x2), .val (.int x3), .val (.int d4), .val (.int d5), .val (.int d6), .val (.int d7), .unset, .unset, .unset, .unset, .unset, .unset, .unset, .unset, .unset, .unset, .unset, .unset]) rfl ?_
    refine XS.iloadN X110.here hx rfl (hb hby at_30) rfl ?_
    refine st113 _ ?_
    exact kk)
  have pre115 : ∀ tt, SP pg ev below (T113.setTop (mkF mi 34 #[.val (.int x0), .val (.int x1), .val (.int x2), .val (.int x3), .val (.int d4), .val (.int d5), .val (.int d6), .val (.int d7), .unset, .unset, .unset, .unset, .unset, .unset, .unset, .unset, .unset, .unset, .unset, .unset] [(.int d8)])) tt → SP pg ev below (s₁.setTop (entryFrame mi #[(.int x0), (.int x1), (.int x2), (.int x3)] maxLocals)) tt := fun tt kk => pre114 tt (by rw [← he_d8]; exact kk)
  have o_d8 : ¬ (d8 < (0 : Int32)) ∧ ¬ ((255 : Int32) < d8) ∧ ¬ (d8 = (47 : Int32)) ∧ ¬ (d8 = (33 : Int32)) := he_d8 ▸ own_chB _
  have z_d8 : ¬ (d8 < (0 : Int32)) := o_d8.1
  have y_d8 : ¬ ((255 : Int32) < d8) := o_d8.2.1
  have zy_d8 : ¬ (d8 < (0 : Int32)) ∧ ¬ ((255 : Int32) < d8) := ⟨z_d8, y_d8⟩
  have s47_d8 : ¬ ((d8.toInt8.toInt32) = (47 : Int32)) := own_ch_byte z_d8 y_d8 (by decide) o_d8.2.2.1
  have s33_d8 : ¬ ((d8.toInt8.toInt32) = (33 : Int32)) := own_ch_byte z_d8 y_d8 (by decide) o_d8.2.2.2
  obtain ⟨v116, _, ⟨T116, L116, k116, n116⟩, -, X116, ⟨Lc116, hQ116, l116, y116, z116⟩, st116⟩ := Jvm.LawKit.callS X113 hx (y := mn25) hown (mvT hZ (wd0 hw)) (mvT hZ (wd1 hw)) (mvT hZ (wd2 hw)) (mvT hZ (wd3 hw)) (by decide) (backOf (W := 0) (rm_chc la Z a0 hw [] ((x2.toUInt32 >>> ((8 : Int32) &&& 31).toUInt32).toInt32) hE n0 O) hZ (wd3 hw) (wd2 hw) (by decide) (by decide)) (g := (mkF mi 40 #[.val (.int x0), .val (.int x1), .val (.int x2), .val (.int x3), .val (.int d4), .val (.int d5), .val (.int d6), .val (.int d7), .val (.int d8), .unset, .unset, .unset, .unset, .unset, .unset, .unset, .unset, .unset, .unset, .unset] [(.int ((x2.toUInt32 >>> ((8 : Int32) &&& 31).toUInt32).toInt32))])) rfl (by rw [hml]; rfl) (argsL := [(.int ((x2.toUInt32 >>> ((8 : Int32) &&& 31).toUInt32).toInt32))]) (rest := []) (lenOf pd_30 rfl) rfl (Nat.le_of_ble_eq_true rfl) (hb hby at_40) (fun _ _ => ⟨rfl, ek113, (by decide : 0 + 0 ≤ _), (by decide : 0 + 0 ≤ _)⟩)
  dsimp only [Pt.U, Pt.locs, Pt.cells, Pt.slots] at X116 l116 y116 z116 st116 hQ116
  subst l116 y116 z116
  obtain ⟨rfl, Nq116, ek116⟩ := hQ116
  have N116 := Fr.app N113 Nq116
  obtain ⟨d9, he_d9⟩ : ∃ z, z = (chF ((x2.toUInt32 >>> ((8 : Int32) &&& 31).toUInt32).toInt32)) := ⟨_, rfl⟩
  have pre117 : ∀ tt, SP pg ev below (T116.setTop (mkF mi 43 #[.val (.int x0), .val (.int x1), .val (.int x2), .val (.int x3), .val (.int d4), .val (.int d5), .val (.int d6), .val (.int d7), .val (.int d8), .unset, .unset, .unset, .unset, .unset, .unset, .unset, .unset, .unset, .unset, .unset] [(.int (chF ((x2.toUInt32 >>> ((8 : Int32) &&& 31).toUInt32).toInt32)))])) tt → SP pg ev below (s₁.setTop (entryFrame mi #[(.int x0), (.int x1), (.int x2), (.int x3)] maxLocals)) tt := fun tt kk => pre115 _ (by
    show SP pg ev below (T113.setTop (mkF mi 34 #[.val (.int x0), .val (.int x1), .val (.int x2), .val (.int x3), .val (.int d4), .val (.int d5), .val (.int d6), .val (.int d7), .unset, .unset, .unset, .unset, .unset, .unset, .unset, .unset, .unset, .unset, .unset, .unset] [(.int d8)])) _
    refine XS.istore X113.here hx rfl (hb hby at_34) rfl (l' := #[.val (.int x0), .val (.int x1), .val (.int x2), .val (.int x3), .val (.int d4), .val (.int d5), .val (.int d6), .val (.int d7), .val (.int d8), .unset, .unset, .unset, .unset, .unset, .unset, .unset, .unset, .unset, .unset, .unset]) rfl ?_
    refine XS.iloadN X113.here hx rfl (hb hby at_36) rfl ?_
    refine XS.bipush X113.here hx rfl (hb hby at_37) ?_
    refine XS.iushr X113.here hx rfl (hb hby at_39) rfl ?_
    refine st116 _ ?_
    exact kk)
  have pre118 : ∀ tt, SP pg ev below (T116.setTop (mkF mi 43 #[.val (.int x0), .val (.int x1), .val (.int x2), .val (.int x3), .val (.int d4), .val (.int d5), .val (.int d6), .val (.int d7), .val (.int d8), .unset, .unset, .unset, .unset, .unset, .unset, .unset, .unset, .unset, .unset, .unset] [(.int d9)])) tt → SP pg ev below (s₁.setTop (entryFrame mi #[(.int x0), (.int x1), (.int x2), (.int x3)] maxLocals)) tt := fun tt kk => pre117 tt (by rw [← he_d9]; exact kk)
  have o_d9 : ¬ (d9 < (0 : Int32)) ∧ ¬ ((255 : Int32) < d9) ∧ ¬ (d9 = (47 : Int32)) ∧ ¬ (d9 = (33 : Int32)) := he_d9 ▸ own_chB _
  have z_d9 : ¬ (d9 < (0 : Int32)) := o_d9.1
  have y_d9 : ¬ ((255 : Int32) < d9) := o_d9.2.1
  have zy_d9 : ¬ (d9 < (0 : Int32)) ∧ ¬ ((255 : Int32) < d9) := ⟨z_d9, y_d9⟩
  have s47_d9 : ¬ ((d9.toInt8.toInt32) = (47 : Int32)) := own_ch_byte z_d9 y_d9 (by decide) o_d9.2.2.1
  have s33_d9 : ¬ ((d9.toInt8.toInt32) = (33 : Int32)) := own_ch_byte z_d9 y_d9 (by decide) o_d9.2.2.2
  have pre119 : ∀ tt, SP pg ev below (T116.setTop (mkF mi 45 #[.val (.int x0), .val (.int x1), .val (.int x2), .val (.int x3), .val (.int d4), .val (.int d5), .val (.int d6), .val (.int d7), .val (.int d8), .val (.int d9), .unset, .unset, .unset, .unset, .unset, .unset, .unset, .unset, .unset, .unset] [])) tt → SP pg ev below (s₁.setTop (entryFrame mi #[(.int x0), (.int x1), (.int x2), (.int x3)] maxLocals)) tt := fun tt kk => pre118 _ (by
    show SP pg ev below (T116.setTop (mkF mi 43 #[.val (.int x0), .val (.int x1), .val (.int x2), .val (.int x3), .val (.int d4), .val (.int d5), .val (.int d6), .val (.int d7), .val (.int d8), .unset, .unset, .unset, .unset, .unset, .unset, .unset, .unset, .unset, .unset, .unset] [(.int d9)])) _
    refine XS.istore X116.here hx rfl (hb hby at_43) rfl (l' := #[.val (.int x0), .val (.int x1), .val (.int x2), .val (.int x3), .val (.int d4), .val (.int d5), .val (.int d6), .val (.int d7), .val (.int d8), .val (.int d9), .unset, .unset, .unset, .unset, .unset, .unset, .unset, .unset, .unset, .unset]) rfl ?_
    exact kk)
  have pre121 : ∀ tt, SP pg ev below (T116.setTop (mkF mi 56 #[.val (.int x0), .val (.int x1), .val (.int x2), .val (.int x3), .val (.int d4), .val (.int d5), .val (.int d6), .val (.int d7), .val (.int d8), .val (.int d9), .unset, .unset, .unset, .unset, .unset, .unset, .unset, .unset, .unset, .unset] [(.int (if (x3 &&& (1 : Int32)) = (0 : Int32) then (0 : Int32) else (1 : Int32)))])) tt → SP pg ev below (s₁.setTop (entryFrame mi #[(.int x0), (.int x1), (.int x2), (.int x3)] maxLocals)) tt := fun tt kk => pre119 _ (by
    show SP pg ev below (T116.setTop (mkF mi 45 #[.val (.int x0), .val (.int x1), .val (.int x2), .val (.int x3), .val (.int d4), .val (.int d5), .val (.int d6), .val (.int d7), .val (.int d8), .val (.int d9), .unset, .unset, .unset, .unset, .unset, .unset, .unset, .unset, .unset, .unset] [])) _
    refine XS.iloadN X116.here hx rfl (hb hby at_45) rfl ?_
    refine XS.iconst X116.here hx rfl (hb hby at_46) ?_
    refine XS.iand X116.here hx rfl (hb hby at_47) rfl ?_
    by_cases hm120 : (x3 &&& (1 : Int32)) = (0 : Int32)
    · try simp only [if_pos hm120] at kk
      show SP pg ev below (T116.setTop (mkF mi 48 #[.val (.int x0), .val (.int x1), .val (.int x2), .val (.int x3), .val (.int d4), .val (.int d5), .val (.int d6), .val (.int d7), .val (.int d8), .val (.int d9), .unset, .unset, .unset, .unset, .unset, .unset, .unset, .unset, .unset, .unset] [(.int (x3 &&& (1 : Int32)))])) _
      refine XS.ifYes X116.here hx rfl (pc0 := 48) (pc' := 55) rfl (hb hby at_48) rfl ((if0 _ _).trans (teq hm120).1) (by decide) (by decide) ?_
      refine XS.iconst X116.here hx rfl (hb hby at_55) ?_
      exact kk
    · try simp only [if_neg hm120] at kk
      show SP pg ev below (T116.setTop (mkF mi 48 #[.val (.int x0), .val (.int x1), .val (.int x2), .val (.int x3), .val (.int d4), .val (.int d5), .val (.int d6), .val (.int d7), .val (.int d8), .val (.int d9), .unset, .unset, .unset, .unset, .unset, .unset, .unset, .unset, .unset, .unset] [(.int (x3 &&& (1 : Int32)))])) _
      refine XS.ifNo X116.here hx rfl (hb hby at_48) rfl ((if0 _ _).trans (feq hm120).1) ?_
      refine XS.iconst X116.here hx rfl (hb hby at_51) ?_
      refine XS.goto X116.here hx rfl (pc0 := 52) (pc' := 56) rfl (hb hby at_52) (by decide) (by decide) ?_
      exact kk)
  obtain ⟨f10, he_f10⟩ : ∃ z, z = (if (x3 &&& (1 : Int32)) = (0 : Int32) then (0 : Int32) else (1 : Int32)) := ⟨_, rfl⟩
  have pre122 : ∀ tt, SP pg ev below (T116.setTop (mkF mi 56 #[.val (.int x0), .val (.int x1), .val (.int x2), .val (.int x3), .val (.int d4), .val (.int d5), .val (.int d6), .val (.int d7), .val (.int d8), .val (.int d9), .unset, .unset, .unset, .unset, .unset, .unset, .unset, .unset, .unset, .unset] [(.int f10)])) tt → SP pg ev below (s₁.setTop (entryFrame mi #[(.int x0), (.int x1), (.int x2), (.int x3)] maxLocals)) tt := fun tt kk => pre121 tt (by rw [← he_f10]; exact kk)
  have pre123 : ∀ tt, SP pg ev below (T116.setTop (mkF mi 58 #[.val (.int x0), .val (.int x1), .val (.int x2), .val (.int x3), .val (.int d4), .val (.int d5), .val (.int d6), .val (.int d7), .val (.int d8), .val (.int d9), .val (.int f10), .unset, .unset, .unset, .unset, .unset, .unset, .unset, .unset, .unset] [])) tt → SP pg ev below (s₁.setTop (entryFrame mi #[(.int x0), (.int x1), (.int x2), (.int x3)] maxLocals)) tt := fun tt kk => pre122 _ (by
    show SP pg ev below (T116.setTop (mkF mi 56 #[.val (.int x0), .val (.int x1), .val (.int x2), .val (.int x3), .val (.int d4), .val (.int d5), .val (.int d6), .val (.int d7), .val (.int d8), .val (.int d9), .unset, .unset, .unset, .unset, .unset, .unset, .unset, .unset, .unset, .unset] [(.int f10)])) _
    refine XS.istore X116.here hx rfl (hb hby at_56) rfl (l' := #[.val (.int x0), .val (.int x1), .val (.int x2), .val (.int x3), .val (.int d4), .val (.int d5), .val (.int d6), .val (.int d7), .val (.int d8), .val (.int d9), .val (.int f10), .unset, .unset, .unset, .unset, .unset, .unset, .unset, .unset, .unset]) rfl ?_
    exact kk)
  have pre125 : ∀ tt, SP pg ev below (T116.setTop (mkF mi 69 #[.val (.int x0), .val (.int x1), .val (.int x2), .val (.int x3), .val (.int d4), .val (.int d5), .val (.int d6), .val (.int d7), .val (.int d8), .val (.int d9), .val (.int f10), .unset, .unset, .unset, .unset, .unset, .unset, .unset, .unset, .unset] [(.int (if (x3 &&& (2 : Int32)) = (0 : Int32) then (0 : Int32) else (1 : Int32)))])) tt → SP pg ev below (s₁.setTop (entryFrame mi #[(.int x0), (.int x1), (.int x2), (.int x3)] maxLocals)) tt := fun tt kk => pre123 _ (by
    show SP pg ev below (T116.setTop (mkF mi 58 #[.val (.int x0), .val (.int x1), .val (.int x2), .val (.int x3), .val (.int d4), .val (.int d5), .val (.int d6), .val (.int d7), .val (.int d8), .val (.int d9), .val (.int f10), .unset, .unset, .unset, .unset, .unset, .unset, .unset, .unset, .unset] [])) _
    refine XS.iloadN X116.here hx rfl (hb hby at_58) rfl ?_
    refine XS.iconst X116.here hx rfl (hb hby at_59) ?_
    refine XS.iand X116.here hx rfl (hb hby at_60) rfl ?_
    by_cases hm124 : (x3 &&& (2 : Int32)) = (0 : Int32)
    · try simp only [if_pos hm124] at kk
      show SP pg ev below (T116.setTop (mkF mi 61 #[.val (.int x0), .val (.int x1), .val (.int x2), .val (.int x3), .val (.int d4), .val (.int d5), .val (.int d6), .val (.int d7), .val (.int d8), .val (.int d9), .val (.int f10), .unset, .unset, .unset, .unset, .unset, .unset, .unset, .unset, .unset] [(.int (x3 &&& (2 : Int32)))])) _
      refine XS.ifYes X116.here hx rfl (pc0 := 61) (pc' := 68) rfl (hb hby at_61) rfl ((if0 _ _).trans (teq hm124).1) (by decide) (by decide) ?_
      refine XS.iconst X116.here hx rfl (hb hby at_68) ?_
      exact kk
    · try simp only [if_neg hm124] at kk
      show SP pg ev below (T116.setTop (mkF mi 61 #[.val (.int x0), .val (.int x1), .val (.int x2), .val (.int x3), .val (.int d4), .val (.int d5), .val (.int d6), .val (.int d7), .val (.int d8), .val (.int d9), .val (.int f10), .unset, .unset, .unset, .unset, .unset, .unset, .unset, .unset, .unset] [(.int (x3 &&& (2 : Int32)))])) _
      refine XS.ifNo X116.here hx rfl (hb hby at_61) rfl ((if0 _ _).trans (feq hm124).1) ?_
      refine XS.iconst X116.here hx rfl (hb hby at_64) ?_
      refine XS.goto X116.here hx rfl (pc0 := 65) (pc' := 69) rfl (hb hby at_65) (by decide) (by decide) ?_
      exact kk)
  obtain ⟨f11, he_f11⟩ : ∃ z, z = (if (x3 &&& (2 : Int32)) = (0 : Int32) then (0 : Int32) else (1 : Int32)) := ⟨_, rfl⟩
  have pre126 : ∀ tt, SP pg ev below (T116.setTop (mkF mi 69 #[.val (.int x0), .val (.int x1), .val (.int x2), .val (.int x3), .val (.int d4), .val (.int d5), .val (.int d6), .val (.int d7), .val (.int d8), .val (.int d9), .val (.int f10), .unset, .unset, .unset, .unset, .unset, .unset, .unset, .unset, .unset] [(.int f11)])) tt → SP pg ev below (s₁.setTop (entryFrame mi #[(.int x0), (.int x1), (.int x2), (.int x3)] maxLocals)) tt := fun tt kk => pre125 tt (by rw [← he_f11]; exact kk)
  have pre127 : ∀ tt, SP pg ev below (T116.setTop (mkF mi 71 #[.val (.int x0), .val (.int x1), .val (.int x2), .val (.int x3), .val (.int d4), .val (.int d5), .val (.int d6), .val (.int d7), .val (.int d8), .val (.int d9), .val (.int f10), .val (.int f11), .unset, .unset, .unset, .unset, .unset, .unset, .unset, .unset] [])) tt → SP pg ev below (s₁.setTop (entryFrame mi #[(.int x0), (.int x1), (.int x2), (.int x3)] maxLocals)) tt := fun tt kk => pre126 _ (by
    show SP pg ev below (T116.setTop (mkF mi 69 #[.val (.int x0), .val (.int x1), .val (.int x2), .val (.int x3), .val (.int d4), .val (.int d5), .val (.int d6), .val (.int d7), .val (.int d8), .val (.int d9), .val (.int f10), .unset, .unset, .unset, .unset, .unset, .unset, .unset, .unset, .unset] [(.int f11)])) _
    refine XS.istore X116.here hx rfl (hb hby at_69) rfl (l' := #[.val (.int x0), .val (.int x1), .val (.int x2), .val (.int x3), .val (.int d4), .val (.int d5), .val (.int d6), .val (.int d7), .val (.int d8), .val (.int d9), .val (.int f10), .val (.int f11), .unset, .unset, .unset, .unset, .unset, .unset, .unset, .unset]) rfl ?_
    exact kk)
  have pre129 : ∀ tt, SP pg ev below (T116.setTop (mkF mi 82 #[.val (.int x0), .val (.int x1), .val (.int x2), .val (.int x3), .val (.int d4), .val (.int d5), .val (.int d6), .val (.int d7), .val (.int d8), .val (.int d9), .val (.int f10), .val (.int f11), .unset, .unset, .unset, .unset, .unset, .unset, .unset, .unset] [(.int (if (x3 &&& (4 : Int32)) = (0 : Int32) then (0 : Int32) else (1 : Int32)))])) tt → SP pg ev below (s₁.setTop (entryFrame mi #[(.int x0), (.int x1), (.int x2), (.int x3)] maxLocals)) tt := fun tt kk => pre127 _ (by
    show SP pg ev below (T116.setTop (mkF mi 71 #[.val (.int x0), .val (.int x1), .val (.int x2), .val (.int x3), .val (.int d4), .val (.int d5), .val (.int d6), .val (.int d7), .val (.int d8), .val (.int d9), .val (.int f10), .val (.int f11), .unset, .unset, .unset, .unset, .unset, .unset, .unset, .unset] [])) _
    refine XS.iloadN X116.here hx rfl (hb hby at_71) rfl ?_
    refine XS.iconst X116.here hx rfl (hb hby at_72) ?_
    refine XS.iand X116.here hx rfl (hb hby at_73) rfl ?_
    by_cases hm128 : (x3 &&& (4 : Int32)) = (0 : Int32)
    · try simp only [if_pos hm128] at kk
      show SP pg ev below (T116.setTop (mkF mi 74 #[.val (.int x0), .val (.int x1), .val (.int x2), .val (.int x3), .val (.int d4), .val (.int d5), .val (.int d6), .val (.int d7), .val (.int d8), .val (.int d9), .val (.int f10), .val (.int f11), .unset, .unset, .unset, .unset, .unset, .unset, .unset, .unset] [(.int (x3 &&& (4 : Int32)))])) _
      refine XS.ifYes X116.here hx rfl (pc0 := 74) (pc' := 81) rfl (hb hby at_74) rfl ((if0 _ _).trans (teq hm128).1) (by decide) (by decide) ?_
      refine XS.iconst X116.here hx rfl (hb hby at_81) ?_
      exact kk
    · try simp only [if_neg hm128] at kk
      show SP pg ev below (T116.setTop (mkF mi 74 #[.val (.int x0), .val (.int x1), .val (.int x2), .val (.int x3), .val (.int d4), .val (.int d5), .val (.int d6), .val (.int d7), .val (.int d8), .val (.int d9), .val (.int f10), .val (.int f11), .unset, .unset, .unset, .unset, .unset, .unset, .unset, .unset] [(.int (x3 &&& (4 : Int32)))])) _
      refine XS.ifNo X116.here hx rfl (hb hby at_74) rfl ((if0 _ _).trans (feq hm128).1) ?_
      refine XS.iconst X116.here hx rfl (hb hby at_77) ?_
      refine XS.goto X116.here hx rfl (pc0 := 78) (pc' := 82) rfl (hb hby at_78) (by decide) (by decide) ?_
      exact kk)
  obtain ⟨f12, he_f12⟩ : ∃ z, z = (if (x3 &&& (4 : Int32)) = (0 : Int32) then (0 : Int32) else (1 : Int32)) := ⟨_, rfl⟩
  have pre130 : ∀ tt, SP pg ev below (T116.setTop (mkF mi 82 #[.val (.int x0), .val (.int x1), .val (.int x2), .val (.int x3), .val (.int d4), .val (.int d5), .val (.int d6), .val (.int d7), .val (.int d8), .val (.int d9), .val (.int f10), .val (.int f11), .unset, .unset, .unset, .unset, .unset, .unset, .unset, .unset] [(.int f12)])) tt → SP pg ev below (s₁.setTop (entryFrame mi #[(.int x0), (.int x1), (.int x2), (.int x3)] maxLocals)) tt := fun tt kk => pre129 tt (by rw [← he_f12]; exact kk)
  have pre132 : ∀ tt, SP pg ev below (T116.setTop (mkF mi 86 #[.val (.int x0), .val (.int x1), .val (.int x2), .val (.int x3), .val (.int d4), .val (.int d5), .val (.int d6), .val (.int d7), .val (.int d8), .val (.int d9), .val (.int f10), .val (.int f11), .val (.int f12), .unset, .unset, .unset, .unset, .unset, .unset, .unset] [(.int f10)])) tt → SP pg ev below (s₁.setTop (entryFrame mi #[(.int x0), (.int x1), (.int x2), (.int x3)] maxLocals)) tt := fun tt kk => pre130 _ (by
    show SP pg ev below (T116.setTop (mkF mi 82 #[.val (.int x0), .val (.int x1), .val (.int x2), .val (.int x3), .val (.int d4), .val (.int d5), .val (.int d6), .val (.int d7), .val (.int d8), .val (.int d9), .val (.int f10), .val (.int f11), .unset, .unset, .unset, .unset, .unset, .unset, .unset, .unset] [(.int f12)])) _
    refine XS.istore X116.here hx rfl (hb hby at_82) rfl (l' := #[.val (.int x0), .val (.int x1), .val (.int x2), .val (.int x3), .val (.int d4), .val (.int d5), .val (.int d6), .val (.int d7), .val (.int d8), .val (.int d9), .val (.int f10), .val (.int f11), .val (.int f12), .unset, .unset, .unset, .unset, .unset, .unset, .unset]) rfl ?_
    refine XS.iload X116.here hx rfl (hb hby at_84) rfl ?_
    exact kk)
  by_cases hc131 : f10 = (0 : Int32)
  · obtain ⟨T133, h133, X133, e133, E133, A133, D133, -, st133⟩ := newO X116 hx hZ hown (wd4 hw) (wd5 hw) (wd6 hw) ek116 (g := (mkF mi 107 #[.val (.int x0), .val (.int x1), .val (.int x2), .val (.int x3), .val (.int d4), .val (.int d5), .val (.int d6), .val (.int d7), .val (.int d8), .val (.int d9), .val (.int f10), .val (.int f11), .val (.int f12), .unset, .unset, .unset, .unset, .unset, .unset, .unset] [])) rfl (hb hby at_107) (by decide) (by decide)
    obtain ⟨b133, q133⟩ : ∃ z, z = hE.size := ⟨_, rfl⟩
    rw [← q133] at A133 D133 st133
    have c134 := CHr.ext E133 C0.1
    have C135 := CHr.trans C0 c134
    have f136 : Fld Z h133 b133 c1_ "coder" "B" (.int 0) := D133 (Or.inr (wd31 hw)) (ty := .byte) (by decide)
    have f137 : Fld Z h133 b133 c1_ "value" "[B" .null := D133 (Or.inr (wd33 hw)) (ty := (.array .byte)) (by decide)
    obtain ⟨T138, h138, k138, X138, e138, E138, A138, st138⟩ := newP (aty := .char) X133 hx hZ (wd7 hw) e133 (g := (mkF mi 112 #[.val (.int x0), .val (.int x1), .val (.int x2), .val (.int x3), .val (.int d4), .val (.int d5), .val (.int d6), .val (.int d7), .val (.int d8), .val (.int d9), .val (.int f10), .val (.int f11), .val (.int f12), .unset, .unset, .unset, .unset, .unset, .unset, .unset] [(.int 2), (.ref b133), (.ref b133)])) rfl (hb hby at_112) rfl (by decide) (cap := 2) (by decide) (by decide) (by decide) (by decide)
    obtain ⟨b138, q138⟩ : ∃ z, z = h133.size := ⟨_, rfl⟩
    rw [← q138] at A138 st138
    have c139 := CHr.ext E138 C135.1
    have C140 := CHr.trans C135 c139
    have f141 : Arv Z h138 b138 k138 .char (2 : Int32) [(.int 0), (.int 0)] (.int 0) := (Arv.new A138 (by decide)).pad (pad_rep [] (.int 0) 2)
    have O143 : Old Z n0 h133 := (O.ext E133)
    have g_b138 : n0 ≤ b138 := Nat.le_trans (Nat.le_trans (Nat.le_of_eq O143.1.symm) O143.2.1) (Nat.le_of_eq q138.symm)
    obtain ⟨T142, h142, L142, X142, e142, N142, Kq142, f142, st142⟩ := own_sc X138 hx hZ e138 f141 0 (c := d4) (j := (0 : Int32)) (own_nar_c zy_d4) rfl (by decide) (Nat.le_of_ble_eq_true rfl) N116 g_b138 (g := (mkF mi 118 #[.val (.int x0), .val (.int x1), .val (.int x2), .val (.int x3), .val (.int d4), .val (.int d5), .val (.int d6), .val (.int d7), .val (.int d8), .val (.int d9), .val (.int f10), .val (.int f11), .val (.int f12), .unset, .unset, .unset, .unset, .unset, .unset, .unset] [(.int d4), (.int 0), (.ref b138), (.ref b138), (.ref b133), (.ref b133)])) rfl rfl (hb hby at_118)
    have c144 := CHr.keep Kq142 (sfS (Safe.arv hZ.alike f141 (by decide)) sf0) C140.1
    have C145 := CHr.trans C140 c144
    obtain ⟨T146, h146, L146, X146, e146, N146, Kq146, f146, st146⟩ := own_sc X142 hx hZ e142 f142 1 (c := d5) (j := (1 : Int32)) (own_nar_c zy_d5) rfl (by decide) (Nat.le_of_ble_eq_true rfl) N142 g_b138 (g := (mkF mi 123 #[.val (.int x0), .val (.int x1), .val (.int x2), .val (.int x3), .val (.int d4), .val (.int d5), .val (.int d6), .val (.int d7), .val (.int d8), .val (.int d9), .val (.int f10), .val (.int f11), .val (.int f12), .unset, .unset, .unset, .unset, .unset, .unset, .unset] [(.int d5), (.int 1), (.ref b138), (.ref b138), (.ref b133), (.ref b133)])) rfl rfl (hb hby at_123)
    have c147 := CHr.keep Kq146 (sfS (Safe.arv hZ.alike f142 (by decide)) sf0) C145.1
    have C148 := CHr.trans C145 c147
    have O149 : Old Z n0 h146 := (((O143.ext E138).keep Kq142 (allS g_b138 all0)).keep Kq146 (allS g_b138 all0))
    have f150 : Exa Z h146 b133 c1_ := (((A133.ext E138).keep Kq142).keep Kq146)
    have ne_b133_b138 : b133 ≠ b138 := Nat.ne_of_lt (Nat.lt_of_lt_of_le A133.lt (Nat.le_trans (Nat.le_refl _) (Nat.le_of_eq q138.symm)))
    have f151 : Fld Z h146 b133 c1_ "value" "[B" .null := (((f137.ext E138).keep Kq142 (ninS ne_b133_b138 nin0)).keep Kq146 (ninS ne_b133_b138 nin0))
    have f152 : Fld Z h146 b133 c1_ "coder" "B" (.int 0) := (((f136.ext E138).keep Kq142 (ninS ne_b133_b138 nin0)).keep Kq146 (ninS ne_b133_b138 nin0))
    have g_b133 : n0 ≤ b133 := Nat.le_trans (Nat.le_trans (Nat.le_of_eq O.1.symm) O.2.1) (Nat.le_of_eq q133.symm)
    obtain ⟨v153, _, ⟨T153, L153, k153, n153⟩, -, X153, ⟨Lc153, hQ153, l153, y153, z153⟩, st153⟩ := X146.specialBack hx (y := mn44) rfl hown (mvT hZ (wd8 hw)) (mvT hZ (wd9 hw)) (mvT hZ (wd10 hw)) (by decide) (own_nsc (W := 1) hZ hw (wd5 hw) b133 b138 k138 ([d4, d5] : List Int32) zc h146 n0 O149 f150 f151 f152 f146 D0_ g_b133 (Nat.le_of_ble_eq_true rfl : 0 < ([d4, d5] : List Int32).length) (Nat.le_of_ble_eq_true rfl : ([d4, d5] : List Int32).length ≤ 4000) ((own_bdC zy_d4 (own_bdC zy_d5 own_bd0)) : ∀ c ∈ ([d4, d5] : List Int32), ¬ c < 0 ∧ ¬ (255 : Int32) < c) (hzc : ¬ (zc = (0 : Int32))) 2 rfl (by decide) (by decide)) (g := (mkF mi 124 #[.val (.int x0), .val (.int x1), .val (.int x2), .val (.int x3), .val (.int d4), .val (.int d5), .val (.int d6), .val (.int d7), .val (.int d8), .val (.int d9), .val (.int f10), .val (.int f11), .val (.int f12), .unset, .unset, .unset, .unset, .unset, .unset, .unset] [(.ref b138), (.ref b133), (.ref b133)])) rfl (by rw [hml]; rfl) (Steps.refl _) (a := b133) (argsL := [(.ref b138)]) (rest := [(.ref b133)]) (lenOf pd_31 rfl) rfl (Nat.le_of_ble_eq_true rfl) (hb hby at_124) (fun _ _ => ⟨rfl, e146, (by decide : 2 + 1 ≤ _), (by decide : 6 + 2 ≤ _)⟩)
    dsimp only [Pt.U, Pt.locs, Pt.cells, Pt.slots] at X153 l153 y153 z153 st153 hQ153
    subst l153 y153 z153
    obtain ⟨t_153, rfl, Nq153, Kq153, fr_t_153, r153_0⟩ := hQ153
    have N153 := Fr.app N146 Nq153
    have sf155 : Safe Z ELs _ h146 b133 := (c147.safe (Nat.lt_of_lt_of_le A133.lt (Nat.le_trans E138.1 Kq142.1)) (c144.safe (Nat.lt_of_lt_of_le A133.lt E138.1) (c139.safe A133.lt (Safe.ext E133 C0.1 (Safe.new (Nat.le_of_eq q133.symm))))))
    have c154 := CHr.keep Kq153 (sfS sf155 sf0) C148.1
    have C156 := CHr.trans C148 c154
    have sf157 : Safe Z ELs _ T153.heap t_153 := (Safe.keep Kq153 (sfS sf155 sf0) C148.1 (Safe.new fr_t_153))
    have pre159 : ∀ tt, SP pg ev below (T153.setTop (mkF mi 131 #[.val (.int x0), .val (.int x1), .val (.int x2), .val (.int x3), .val (.int d4), .val (.int d5), .val (.int d6), .val (.int d7), .val (.int d8), .val (.int d9), .val (.int f10), .val (.int f11), .val (.int f12), .val (.ref b133), .unset, .unset, .unset, .unset, .unset, .unset] [(.int f11)])) tt → SP pg ev below (s₁.setTop (entryFrame mi #[(.int x0), (.int x1), (.int x2), (.int x3)] maxLocals)) tt := fun tt kk => pre132 _ (by
      show SP pg ev below (T116.setTop (mkF mi 86 #[.val (.int x0), .val (.int x1), .val (.int x2), .val (.int x3), .val (.int d4), .val (.int d5), .val (.int d6), .val (.int d7), .val (.int d8), .val (.int d9), .val (.int f10), .val (.int f11), .val (.int f12), .unset, .unset, .unset, .unset, .unset, .unset, .unset] [(.int f10)])) _
      refine XS.ifYes X116.here hx rfl (pc0 := 86) (pc' := 107) rfl (hb hby at_86) rfl ((if0 _ _).trans (teq hc131).1) (by decide) (by decide) ?_
      refine st133 _ ?_
      refine XS.dup X133.here hx rfl (hb hby at_110) rfl rfl ?_
      refine XS.iconst X133.here hx rfl (hb hby at_111) ?_
      refine st138 _ ?_
      refine XS.dup X138.here hx rfl (hb hby at_114) rfl rfl ?_
      refine XS.iconst X138.here hx rfl (hb hby at_115) ?_
      refine XS.iload X138.here hx rfl (hb hby at_116) rfl ?_
      refine st142 _ ?_
      refine XS.dup X142.here hx rfl (hb hby at_119) rfl rfl ?_
      refine XS.iconst X142.here hx rfl (hb hby at_120) ?_
      refine XS.iload X142.here hx rfl (hb hby at_121) rfl ?_
      refine st146 _ ?_
      refine st153.trans ?_
      refine XS.astore X153.here hx rfl (hb hby at_127) rfl rfl (l' := #[.val (.int x0), .val (.int x1), .val (.int x2), .val (.int x3), .val (.int d4), .val (.int d5), .val (.int d6), .val (.int d7), .val (.int d8), .val (.int d9), .val (.int f10), .val (.int f11), .val (.int f12), .val (.ref b133), .unset, .unset, .unset, .unset, .unset, .unset]) rfl ?_
      refine XS.iload X153.here hx rfl (hb hby at_129) rfl ?_
      exact kk)
    by_cases hc158 : f11 = (0 : Int32)
    · have pre160 : ∀ tt, SP pg ev below (T153.setTop (mkF mi 160 #[.val (.int x0), .val (.int x1), .val (.int x2), .val (.int x3), .val (.int d4), .val (.int d5), .val (.int d6), .val (.int d7), .val (.int d8), .val (.int d9), .val (.int f10), .val (.int f11), .val (.int f12), .val (.ref b133), .val .null, .unset, .unset, .unset, .unset, .unset] [])) tt → SP pg ev below (s₁.setTop (entryFrame mi #[(.int x0), (.int x1), (.int x2), (.int x3)] maxLocals)) tt := fun tt kk => pre159 _ (by
        show SP pg ev below (T153.setTop (mkF mi 131 #[.val (.int x0), .val (.int x1), .val (.int x2), .val (.int x3), .val (.int d4), .val (.int d5), .val (.int d6), .val (.int d7), .val (.int d8), .val (.int d9), .val (.int f10), .val (.int f11), .val (.int f12), .val (.ref b133), .unset, .unset, .unset, .unset, .unset, .unset] [(.int f11)])) _
        refine XS.ifYes X153.here hx rfl (pc0 := 131) (pc' := 157) rfl (hb hby at_131) rfl ((if0 _ _).trans (teq hc158).1) (by decide) (by decide) ?_
        refine XS.aconstNull X153.here hx rfl (hb hby at_157) ?_
        refine XS.astore X153.here hx rfl (hb hby at_158) rfl rfl (l' := #[.val (.int x0), .val (.int x1), .val (.int x2), .val (.int x3), .val (.int d4), .val (.int d5), .val (.int d6), .val (.int d7), .val (.int d8), .val (.int d9), .val (.int f10), .val (.int f11), .val (.int f12), .val (.ref b133), .val .null, .unset, .unset, .unset, .unset, .unset]) rfl ?_
        exact kk)
      have O161 : Old Z n0 T153.heap := (O149.keep Kq153 (allS g_b133 all0))
      obtain ⟨T162, h162, L162, va_162, X162, e162, N162, Kq162, r162_0, st162⟩ := sw_app hw d8 f12 zc (.val (.int x0)) (.val (.int x1)) (.val (.int x2)) (.val (.int x3)) (.val (.int d4)) (.val (.int d5)) (.val (.int d6)) (.val (.int d7)) (.val (.int d9)) (.val (.int f10)) (.val (.int f11)) (.val (.ref b133)) (.val .null) (.unset) (.unset) (.unset) (.unset) T153.heap n0 (X153.more (by decide) (by decide)) hx hby hml hZ hown rfl N153 O161 D0_ (z_d8 : ¬ (d8 < (0 : Int32))) (y_d8 : ¬ ((255 : Int32) < d8)) (hzc : ¬ (zc = (0 : Int32)))
      have c163 := CHr.keep Kq162 sf0 C156.1
      have C164 := CHr.trans C156 c163
      have O165 : Old Z n0 h162 := (O161.keep Kq162 all0)
      obtain ⟨v166, _, ⟨T166, L166, k166, n166⟩, -, X166, ⟨Lc166, hQ166, l166, y166, z166⟩, st166⟩ := Jvm.LawKit.callS X162 hx (y := mn29) hown (mvT hZ (wd34 hw)) (mvT hZ (wd35 hw)) (mvT hZ (wd6 hw)) (mvT hZ (wd36 hw)) (by decide) (backOf (W := 0) (rm_vof la Z a0 hw [] d9 zc h162 n0 O165 D0_ (y_d9 : ¬ ((255 : Int32) < d9)) (z_d9 : ¬ (d9 < (0 : Int32))) (hzc : ¬ (zc = (0 : Int32)))) hZ (wd36 hw) (wd6 hw) (by decide) (by decide)) (g := (mkF mi 178 #[.val (.int x0), .val (.int x1), .val (.int x2), .val (.int x3), .val (.int d4), .val (.int d5), .val (.int d6), .val (.int d7), .val (.int d8), .val (.int d9), .val (.int f10), .val (.int f11), .val (.int f12), .val (.ref b133), .val .null, .val va_162, .unset, .unset, .unset, .unset] [(.int d9)])) rfl (by rw [hml]; rfl) (argsL := [(.int d9)]) (rest := []) (lenOf pd_29 rfl) rfl (Nat.le_of_ble_eq_true rfl) (hb hby at_178) (fun _ _ => ⟨rfl, e162, (by decide : 8 + 2 ≤ _), (by decide : 45 + 5 ≤ _)⟩)
      dsimp only [Pt.U, Pt.locs, Pt.cells, Pt.slots] at X166 l166 y166 z166 st166 hQ166
      subst l166 y166 z166
      obtain ⟨x_166, t_166, rfl, Nq166, Kq166, fr_x_166, fr_t_166, r166_0⟩ := hQ166
      have N166 := Fr.app N162 Nq166
      have c167 := CHr.keep Kq166 sf0 C164.1
      have C168 := CHr.trans C164 c167
      obtain ⟨T169, h169, X169, e169, E169, A169, D169, -, st169⟩ := newO X166 hx hZ hown (wd48 hw) (wd49 hw) (wd50 hw) rfl (g := (mkF mi 183 #[.val (.int x0), .val (.int x1), .val (.int x2), .val (.int x3), .val (.int d4), .val (.int d5), .val (.int d6), .val (.int d7), .val (.int d8), .val (.int d9), .val (.int f10), .val (.int f11), .val (.int f12), .val (.ref b133), .val .null, .val va_162, .val (.ref x_166), .unset, .unset, .unset] [])) rfl (hb hby at_183) (by decide) (by decide)
      obtain ⟨b169, q169⟩ : ∃ z, z = T166.heap.size := ⟨_, rfl⟩
      rw [← q169] at A169 D169 st169
      have c170 := CHr.ext E169 C168.1
      have C171 := CHr.trans C168 c170
      have f172 : Fld Z h169 b169 c0_ "appName" c4_ .null := D169 (Or.inr (wd118 hw)) (ty := (.object c1_)) (by decide)
      have f173 : Fld Z h169 b169 c0_ c19_ c4_ .null := D169 (Or.inr (wd120 hw)) (ty := (.object c1_)) (by decide)
      have f174 : Fld Z h169 b169 c0_ "beanName" c4_ .null := D169 (Or.inr (wd122 hw)) (ty := (.object c1_)) (by decide)
      have f175 : Fld Z h169 b169 c0_ "viewName" c4_ .null := D169 (Or.inr (wd124 hw)) (ty := (.object c1_)) (by decide)
      have O176 : Old Z n0 h169 := ((O165.keep Kq166 all0).ext E169)
      have f177 : OStr Z h169 va_162 ([d8] : List Int32) := ((r162_0.keep Kq166 ).ext E169)
      have f178 : LStr Z h169 x_166 t_166 ([d9] : List Int32) := (r166_0.ext E169)
      have f179 : LStr Z h169 b133 t_153 ([d4, d5] : List Int32) := (((r153_0.keep Kq162 nin0 nin0).keep Kq166 nin0 nin0).ext E169)
      have O180 : Old Z n0 T166.heap := (O165.keep Kq166 all0)
      have g_b169 : n0 ≤ b169 := Nat.le_trans (Nat.le_trans (Nat.le_of_eq O180.1.symm) O180.2.1) (Nat.le_of_eq q169.symm)
      have ne_x_166_b169 : x_166 ≠ b169 := Nat.ne_of_lt (Nat.lt_of_lt_of_le r166_0.lt (Nat.le_trans (Nat.le_refl _) (Nat.le_of_eq q169.symm)))
      have ne_t_166_b169 : t_166 ≠ b169 := Nat.ne_of_lt (Nat.lt_of_lt_of_le r166_0.ltt (Nat.le_trans (Nat.le_refl _) (Nat.le_of_eq q169.symm)))
      have ne_b133_b169 : b133 ≠ b169 := Nat.ne_of_lt (Nat.lt_of_lt_of_le A133.lt (Nat.le_trans (Nat.le_trans (Nat.le_trans (Nat.le_trans (Nat.le_trans (Nat.le_trans E138.1 Kq142.1) Kq146.1) Kq153.1) Kq162.1) Kq166.1) (Nat.le_of_eq q169.symm)))
      have ne_t_153_b169 : t_153 ≠ b169 := Nat.ne_of_lt (Nat.lt_of_lt_of_le r153_0.ltt (Nat.le_trans (Nat.le_trans Kq162.1 Kq166.1) (Nat.le_of_eq q169.symm)))
      obtain ⟨v181, _, ⟨T181, L181, k181, n181⟩, -, X181, s181, gr181, ⟨Lc181, hQ181, l181, y181, z181, c181⟩, st181⟩ := X169.specialBackS hx (y := mn41) rfl hown (mvT hZ (wd51 hw)) (mvT hZ (wd52 hw)) (mvT hZ (wd53 hw)) (by decide) (backOfSH (W := 1) (rm_gin0 la Z a0 hw [] b169 va_162 ([d8] : List Int32) x_166 t_166 ([d9] : List Int32) b133 t_153 ([d4, d5] : List Int32) zc h169 n0 O176 A169 f172 f173 f174 f175 f177 f178 f179 D0_ g_b169 ne_x_166_b169 ne_t_166_b169 ne_b133_b169 ne_t_153_b169 (OStr.isRef f177 : va_162.isRef = true) (Nat.succ_ne_zero _ : ([d8] : List Int32).length ≠ 0) (own_a1 s47_d8 : ∀ c ∈ ([d8] : List Int32), ¬ ((c.toInt8.toInt32) = (47 : Int32))) (own_a1 s33_d8 : ∀ c ∈ ([d8] : List Int32), ¬ ((c.toInt8.toInt32) = (33 : Int32))) (Nat.succ_ne_zero _ : ([d9] : List Int32).length ≠ 0) (own_a1 s47_d9 : ∀ c ∈ ([d9] : List Int32), ¬ ((c.toInt8.toInt32) = (47 : Int32))) (own_a1 s33_d9 : ∀ c ∈ ([d9] : List Int32), ¬ ((c.toInt8.toInt32) = (33 : Int32))) (Nat.succ_ne_zero _ : ([d4, d5] : List Int32).length ≠ 0) (own_a2 s47_d4 s47_d5 : ∀ c ∈ ([d4, d5] : List Int32), ¬ ((c.toInt8.toInt32) = (47 : Int32))) (own_a2 s33_d4 s33_d5 : ∀ c ∈ ([d4, d5] : List Int32), ¬ ((c.toInt8.toInt32) = (33 : Int32))) (hzc : ¬ (zc = (0 : Int32)))) hZ (wd53 hw) (wd50 hw) (by decide) (by decide) hEL C171.1) (g := (mkF mi 195 #[.val (.int x0), .val (.int x1), .val (.int x2), .val (.int x3), .val (.int d4), .val (.int d5), .val (.int d6), .val (.int d7), .val (.int d8), .val (.int d9), .val (.int f10), .val (.int f11), .val (.int f12), .val (.ref b133), .val .null, .val va_162, .val (.ref x_166), .unset, .unset, .unset] [.null, (.ref b133), (.ref x_166), va_162, (.ref b169), (.ref b169)])) rfl (by rw [hml]; rfl) (Steps.refl _) (a := b169) (argsL := [va_162, (.ref x_166), (.ref b133), .null]) (rest := [(.ref b169)]) (lenOf pd_27 rfl) rfl (Nat.le_of_ble_eq_true rfl) (hb hby at_195) (fun _ _ => ⟨rfl, e169, (by decide : 11 + 20 ≤ _), (by decide : 54 + 308 ≤ _)⟩)
      dsimp only [Pt.U, Pt.locs, Pt.cells, Pt.slots] at X181 s181 gr181 l181 y181 z181 c181 st181 hQ181
      subst l181 y181 z181
      obtain ⟨X181, hS, hZ, hown⟩ := rebS hS (show _ ≤ T169.heap.size by rw [e169]; exact (Nat.le_trans hk (Nat.le_trans (Nat.le_trans (Nat.le_trans (Nat.le_trans (Nat.le_trans (Nat.le_trans (Nat.le_trans E133.1 E138.1) Kq142.1) Kq146.1) Kq153.1) Kq162.1) Kq166.1) E169.1))) X181 s181 gr181 hZ hown
      have hk : T181.heap.size ≤ T181.heap.size := Nat.le_refl _
      obtain ⟨rfl, Nq181, Kq181, r181_0, r181_1, r181_2, r181_3⟩ := hQ181
      have N181 := Fr.app N166 Nq181
      have C182 := CHr.trans C171 c181
      have O183 : Old Z n0 T181.heap := (O176.keep Kq181 (allS g_b169 all0))
      have f184 : LStr Z T181.heap b133 t_153 ([d4, d5] : List Int32) := (f179.keep Kq181 (ninS ne_b133_b169 nin0) (ninS ne_t_153_b169 nin0))
      obtain ⟨cq185, kq185, q185a, q185b, q185c⟩ := isOf hZ rfl r181_0
      obtain ⟨v185, _, ⟨T185, L185, k185, n185⟩, -, X185, s185, gr185, ⟨Lc185, hQ185, l185, y185, z185, c185⟩, st185⟩ := X181.virtualBackS hx (y := mn43) (z := mn43) hown (mvT hZ (wd125 hw)) (mvT hZ (wd126 hw)) (notFace_of_selects (args := #[]) (mvT hZ (wd128 hw))) (mvT hZ (wd128 hw)) (mvT hZ (wd127 hw)) (by decide) (backOfSH (W := 0) (rm_imn la Z a0 hw [] b169 b133 t_153 ([d4, d5] : List Int32) zc T181.heap n0 O183 r181_0 r181_2 f184 r181_3 D0_ (Nat.le_of_ble_eq_true rfl : ([d4, d5] : List Int32).length ≤ 3) (hzc : ¬ (zc = (0 : Int32)))) hZ (wd129 hw) (wd50 hw) (by decide) (by decide) hEL C182.1) q185a q185c (g := (mkF mi 202 #[.val (.int x0), .val (.int x1), .val (.int x2), .val (.int x3), .val (.int d4), .val (.int d5), .val (.int d6), .val (.int d7), .val (.int d8), .val (.int d9), .val (.int f10), .val (.int f11), .val (.int f12), .val (.ref b133), .val .null, .val va_162, .val (.ref x_166), .val (.ref b169), .unset, .unset] [(.ref b169)])) rfl (by rw [hml]; rfl) (Steps.refl _) (argsL := []) (rest := []) (lenOf pd_22 rfl) rfl (Nat.le_of_ble_eq_true rfl) (hb hby at_202) (fun _ _ => ⟨rfl, rfl, (by decide : 31 + 8 ≤ _), (by decide : 362 + 200 ≤ _)⟩)
      dsimp only [Pt.U, Pt.locs, Pt.cells, Pt.slots] at X185 s185 gr185 l185 y185 z185 c185 st185 hQ185
      subst l185 y185 z185
      obtain ⟨X185, hS, hZ, hown⟩ := rebS hS (show _ ≤ T181.heap.size from hk) X185 s185 gr185 hZ hown
      have hk : T185.heap.size ≤ T185.heap.size := Nat.le_refl _
      obtain ⟨x_185, t_185, rfl, Nq185, Kq185, fr_x_185, fr_t_185, r185_0⟩ := hQ185
      have N185 := Fr.app N181 Nq185
      have C186 := CHr.trans C182 c185
      have pre187 : ∀ tt, SP pg ev below (T185.setTop (mkF mi 507 #[.val (.int x0), .val (.int x1), .val (.int x2), .val (.int x3), .val (.int d4), .val (.int d5), .val (.int d6), .val (.int d7), .val (.int d8), .val (.int d9), .val (.int f10), .val (.int f11), .val (.int f12), .val (.ref b133), .val .null, .val va_162, .val (.ref x_166), .val (.ref b169), .val (.ref x_185), .unset] [])) tt → SP pg ev below (s₁.setTop (entryFrame mi #[(.int x0), (.int x1), (.int x2), (.int x3)] maxLocals)) tt := fun tt kk => pre160 _ (by
        show SP pg ev below (T153.setTop (mkF mi 160 #[.val (.int x0), .val (.int x1), .val (.int x2), .val (.int x3), .val (.int d4), .val (.int d5), .val (.int d6), .val (.int d7), .val (.int d8), .val (.int d9), .val (.int f10), .val (.int f11), .val (.int f12), .val (.ref b133), .val .null, .unset, .unset, .unset, .unset, .unset] [])) _
        refine st162 _ ?_
        refine XS.iload X162.here hx rfl (hb hby at_176) rfl ?_
        refine st166 _ ?_
        refine XS.astore X166.here hx rfl (hb hby at_181) rfl rfl (l' := #[.val (.int x0), .val (.int x1), .val (.int x2), .val (.int x3), .val (.int d4), .val (.int d5), .val (.int d6), .val (.int d7), .val (.int d8), .val (.int d9), .val (.int f10), .val (.int f11), .val (.int f12), .val (.ref b133), .val .null, .val va_162, .val (.ref x_166), .unset, .unset, .unset]) rfl ?_
        refine st169 _ ?_
        refine XS.dup X169.here hx rfl (hb hby at_186) rfl rfl ?_
        refine XS.aload X169.here hx rfl (hb hby at_187) rfl (OStr.isRef r162_0) ?_
        refine XS.aload X169.here hx rfl (hb hby at_189) rfl rfl ?_
        refine XS.aload X169.here hx rfl (hb hby at_191) rfl rfl ?_
        refine XS.aload X169.here hx rfl (hb hby at_193) rfl rfl ?_
        refine st181.trans ?_
        refine XS.astore X181.here hx rfl (hb hby at_198) rfl rfl (l' := #[.val (.int x0), .val (.int x1), .val (.int x2), .val (.int x3), .val (.int d4), .val (.int d5), .val (.int d6), .val (.int d7), .val (.int d8), .val (.int d9), .val (.int f10), .val (.int f11), .val (.int f12), .val (.ref b133), .val .null, .val va_162, .val (.ref x_166), .val (.ref b169), .unset, .unset]) rfl ?_
        refine XS.aload X181.here hx rfl (hb hby at_200) rfl rfl ?_
        refine st185.trans ?_
        refine XS.astore X185.here hx rfl (hb hby at_205) rfl rfl (l' := #[.val (.int x0), .val (.int x1), .val (.int x2), .val (.int x3), .val (.int d4), .val (.int d5), .val (.int d6), .val (.int d7), .val (.int d8), .val (.int d9), .val (.int f10), .val (.int f11), .val (.int f12), .val (.ref b133), .val .null, .val va_162, .val (.ref x_166), .val (.ref b169), .val (.ref x_185), .unset]) rfl ?_
        refine XS.iload X185.here hx rfl (hb hby at_207) rfl ?_
        refine XS.ifYes X185.here hx rfl (pc0 := 209) (pc' := 397) rfl (hb hby at_209) rfl ((if0 _ _).trans (teq hc131).1) (by decide) (by decide) ?_
        refine XS.iload X185.here hx rfl (hb hby at_397) rfl ?_
        refine XS.ifYes X185.here hx rfl (pc0 := 399) (pc' := 507) rfl (hb hby at_399) rfl ((if0 _ _).trans (teq hc158).1) (by decide) (by decide) ?_
        exact kk)
      have O188 : Old Z n0 T185.heap := (O183.keep Kq185 all0)
      obtain ⟨T189, h189, L189, b_189, kb_189, X189, e189, N189, Kq189, fr_b_189, r189_0, st189⟩ := sw_fill14 hw d4 d5 (.val (.int x0)) (.val (.int x1)) (.val (.int x2)) (.val (.int x3)) (.val (.int d6)) (.val (.int d7)) (.val (.int d8)) (.val (.int d9)) (.val (.int f10)) (.val (.int f11)) (.val (.int f12)) (.val (.ref b133)) (.val .null) (.val va_162) (.val (.ref x_166)) (.val (.ref b169)) (.val (.ref x_185)) T185.heap n0 (X185.more (by decide) (by decide)) hx hby hml hZ hown rfl N185 O188 (zy_d4 : ¬ (d4 < (0 : Int32)) ∧ ¬ ((255 : Int32) < d4)) (zy_d5 : ¬ (d5 < (0 : Int32)) ∧ ¬ ((255 : Int32) < d5))
      have c190 := CHr.keep Kq189 sf0 C186.1
      have C191 := CHr.trans C186 c190
      obtain ⟨T192, h192, X192, e192, E192, A192, D192, -, st192⟩ := newO X189 hx hZ hown (wd4 hw) (wd5 hw) (wd6 hw) e189 (g := (mkF mi 593 #[.val (.int x0), .val (.int x1), .val (.int x2), .val (.int x3), .val (.int d4), .val (.int d5), .val (.int d6), .val (.int d7), .val (.int d8), .val (.int d9), .val (.int f10), .val (.int f11), .val (.int f12), .val (.ref b133), .val .null, .val va_162, .val (.ref x_166), .val (.ref b169), .val (.ref x_185), .val (.ref b_189)] [(.ref x_185)])) rfl (hb hby at_593) (by decide) (by decide)
      obtain ⟨b192, q192⟩ : ∃ z, z = h189.size := ⟨_, rfl⟩
      rw [← q192] at A192 D192 st192
      have c193 := CHr.ext E192 C191.1
      have C194 := CHr.trans C191 c193
      have f195 : Fld Z h192 b192 c1_ "coder" "B" (.int 0) := D192 (Or.inr (wd31 hw)) (ty := .byte) (by decide)
      have f196 : Fld Z h192 b192 c1_ "value" "[B" .null := D192 (Or.inr (wd33 hw)) (ty := (.array .byte)) (by decide)
      have O197 : Old Z n0 h192 := ((O188.keep Kq189 all0).ext E192)
      have f198 : Arv Z h192 b_189 kb_189 .char (14 : Int32) [(.int 106), (.int 97), (.int 118), (.int 97), (.int 58), (.int 109), (.int 111), (.int 100), (.int 117), (.int 108), (.int 101), (.int 47), (.int d4), (.int d5)] (.int 0) := (r189_0.ext E192)
      have O199 : Old Z n0 h189 := (O188.keep Kq189 all0)
      have g_b192 : n0 ≤ b192 := Nat.le_trans (Nat.le_trans (Nat.le_of_eq O199.1.symm) O199.2.1) (Nat.le_of_eq q192.symm)
      obtain ⟨v200, _, ⟨T200, L200, k200, n200⟩, -, X200, ⟨Lc200, hQ200, l200, y200, z200⟩, st200⟩ := X192.specialBack hx (y := mn44) rfl hown (mvT hZ (wd8 hw)) (mvT hZ (wd9 hw)) (mvT hZ (wd10 hw)) (by decide) (own_nsc (W := 2) hZ hw (wd5 hw) b192 b_189 kb_189 ([(106 : Int32), (97 : Int32), (118 : Int32), (97 : Int32), (58 : Int32), (109 : Int32), (111 : Int32), (100 : Int32), (117 : Int32), (108 : Int32), (101 : Int32), (47 : Int32), d4, d5] : List Int32) zc h192 n0 O197 A192 f196 f195 f198 D0_ g_b192 (Nat.le_of_ble_eq_true rfl : 0 < ([(106 : Int32), (97 : Int32), (118 : Int32), (97 : Int32), (58 : Int32), (109 : Int32), (111 : Int32), (100 : Int32), (117 : Int32), (108 : Int32), (101 : Int32), (47 : Int32), d4, d5] : List Int32).length) (Nat.le_of_ble_eq_true rfl : ([(106 : Int32), (97 : Int32), (118 : Int32), (97 : Int32), (58 : Int32), (109 : Int32), (111 : Int32), (100 : Int32), (117 : Int32), (108 : Int32), (101 : Int32), (47 : Int32), d4, d5] : List Int32).length ≤ 4000) ((own_bdC (by decide) (own_bdC (by decide) (own_bdC (by decide) (own_bdC (by decide) (own_bdC (by decide) (own_bdC (by decide) (own_bdC (by decide) (own_bdC (by decide) (own_bdC (by decide) (own_bdC (by decide) (own_bdC (by decide) (own_bdC (by decide) (own_bdC zy_d4 (own_bdC zy_d5 own_bd0)))))))))))))) : ∀ c ∈ ([(106 : Int32), (97 : Int32), (118 : Int32), (97 : Int32), (58 : Int32), (109 : Int32), (111 : Int32), (100 : Int32), (117 : Int32), (108 : Int32), (101 : Int32), (47 : Int32), d4, d5] : List Int32), ¬ c < 0 ∧ ¬ (255 : Int32) < c) (hzc : ¬ (zc = (0 : Int32))) 14 rfl (by decide) (by decide)) (g := (mkF mi 599 #[.val (.int x0), .val (.int x1), .val (.int x2), .val (.int x3), .val (.int d4), .val (.int d5), .val (.int d6), .val (.int d7), .val (.int d8), .val (.int d9), .val (.int f10), .val (.int f11), .val (.int f12), .val (.ref b133), .val .null, .val va_162, .val (.ref x_166), .val (.ref b169), .val (.ref x_185), .val (.ref b_189)] [(.ref b_189), (.ref b192), (.ref b192), (.ref x_185)])) rfl (by rw [hml]; rfl) (Steps.refl _) (a := b192) (argsL := [(.ref b_189)]) (rest := [(.ref b192), (.ref x_185)]) (lenOf pd_31 rfl) rfl (Nat.le_of_ble_eq_true rfl) (hb hby at_599) (fun _ _ => ⟨rfl, e192, (by decide : 72 + 1 ≤ _), (by decide : 10018 + 14 ≤ _)⟩)
      dsimp only [Pt.U, Pt.locs, Pt.cells, Pt.slots] at X200 l200 y200 z200 st200 hQ200
      subst l200 y200 z200
      obtain ⟨t_200, rfl, Nq200, Kq200, fr_t_200, r200_0⟩ := hQ200
      have N200 := Fr.app N189 Nq200
      have c201 := CHr.keep Kq200 (sfS (Safe.ext E192 C191.1 (Safe.new (Nat.le_of_eq q192.symm))) sf0) C194.1
      have C202 := CHr.trans C194 c201
      have sf203 : Safe Z ELs _ T200.heap t_200 := (Safe.keep Kq200 (sfS (Safe.ext E192 C191.1 (Safe.new (Nat.le_of_eq q192.symm))) sf0) C194.1 (Safe.new fr_t_200))
      have heq : ∀ d ∈ StrChars.Road.wordsEq, d.before a0 Z = true := fun d hd => hw d ((by decide +kernel : ∀ d ∈ StrChars.Road.wordsEq, d ∈ tables_1) d hd)
      have ne_x_185_b192 : x_185 ≠ b192 := Nat.ne_of_lt (Nat.lt_of_lt_of_le r185_0.lt (Nat.le_trans Kq189.1 (Nat.le_of_eq q192.symm)))
      have ne_t_185_b192 : t_185 ≠ b192 := Nat.ne_of_lt (Nat.lt_of_lt_of_le r185_0.ltt (Nat.le_trans Kq189.1 (Nat.le_of_eq q192.symm)))
      have f204 : LStr Z T200.heap x_185 t_185 (((([] : List Int32) ++ ([(106 : Int32), (97 : Int32), (118 : Int32), (97 : Int32), (58 : Int32), (109 : Int32), (111 : Int32), (100 : Int32), (117 : Int32), (108 : Int32), (101 : Int32), (47 : Int32)] : List Int32)) ++ ([d4, d5] : List Int32)) ++ ([] : List Int32)) := (((r185_0.keep Kq189 nin0 nin0).ext E192).keep Kq200 (ninS ne_x_185_b192 nin0) (ninS ne_t_185_b192 nin0))
      obtain ⟨sE205, sV205, sC205, ⟨kb205, sK205⟩, sb205, sl205⟩ := id f204
      obtain ⟨sE206, sV206, sC206, ⟨kb206, sK206⟩, sb206, sl206⟩ := id r200_0
      have O207 : Old Z n0 T200.heap := (O197.keep Kq200 (allS g_b192 all0))
      obtain ⟨cq208, kq208, q208a, q208b, q208c⟩ := isOf hZ rfl (f204).1
      obtain ⟨v208, _, ⟨T208, L208, k208, n208⟩, -, X208, ⟨Lc208, ⟨hv208, hL208, hh208⟩, l208, y208, z208⟩, st208⟩ := X200.virtualBack hx (y := mn45) (z := mn45) hown (mvT hZ (wd241 hw)) (mvT hZ (wd242 hw)) (notFace_of_selects (args := #[]) (mvT hZ (wd244 hw))) (mvT hZ (wd244 hw)) (mvT hZ (wd243 hw)) (by decide) (StrChars.Road.eqW (W := 0) hZ heq (kI := 4) (wd5 hw) sE205 sV205 sC205 sK205 (own_cod sb205) (own_up sb205) sl205 sE206 sV206 sC206 sK206 (own_cod sb206) (own_up sb206) sl206 (D0_.ext O207.2) hzc (by decide) (by decide)) q208a q208c (g := (mkF mi 602 #[.val (.int x0), .val (.int x1), .val (.int x2), .val (.int x3), .val (.int d4), .val (.int d5), .val (.int d6), .val (.int d7), .val (.int d8), .val (.int d9), .val (.int f10), .val (.int f11), .val (.int f12), .val (.ref b133), .val .null, .val va_162, .val (.ref x_166), .val (.ref b169), .val (.ref x_185), .val (.ref b_189)] [(.ref b192), (.ref x_185)])) rfl (by rw [hml]; rfl) (Steps.refl _) (argsL := [(.ref b192)]) (rest := []) (lenOf pd_32 rfl) rfl (Nat.le_of_ble_eq_true rfl) (hb hby at_602) (fun _ _ => ⟨rfl, rfl, (by decide : 73 + 0 ≤ _), (by decide : 10032 + 0 ≤ _)⟩)
      dsimp only [Pt.U, Pt.locs, Pt.cells, Pt.slots] at X208 l208 y208 z208 st208 hv208 hL208 hh208
      have hw208 : v208 = some (.int (if (((([] : List Int32) ++ ([(106 : Int32), (97 : Int32), (118 : Int32), (97 : Int32), (58 : Int32), (109 : Int32), (111 : Int32), (100 : Int32), (117 : Int32), (108 : Int32), (101 : Int32), (47 : Int32)] : List Int32)) ++ ([d4, d5] : List Int32)) ++ ([] : List Int32)) = ([(106 : Int32), (97 : Int32), (118 : Int32), (97 : Int32), (58 : Int32), (109 : Int32), (111 : Int32), (100 : Int32), (117 : Int32), (108 : Int32), (101 : Int32), (47 : Int32), d4, d5] : List Int32) then (1 : Int32) else 0)) := by rcases hv208 with ⟨q1, q2⟩ | ⟨q1, q2⟩; (rw [q1, if_pos q2]); (rw [q1, if_neg q2])
      clear hv208
      subst hw208 hL208
      subst l208 y208 z208
      have N208 := Fr.app N200 (Fr.nil n0)
      have pre209 : ∀ tt, SP pg ev below (T208.setTop (mkF mi 605 #[.val (.int x0), .val (.int x1), .val (.int x2), .val (.int x3), .val (.int d4), .val (.int d5), .val (.int d6), .val (.int d7), .val (.int d8), .val (.int d9), .val (.int f10), .val (.int f11), .val (.int f12), .val (.ref b133), .val .null, .val va_162, .val (.ref x_166), .val (.ref b169), .val (.ref x_185), .val (.ref b_189)] [(.int (if (((([] : List Int32) ++ ([(106 : Int32), (97 : Int32), (118 : Int32), (97 : Int32), (58 : Int32), (109 : Int32), (111 : Int32), (100 : Int32), (117 : Int32), (108 : Int32), (101 : Int32), (47 : Int32)] : List Int32)) ++ ([d4, d5] : List Int32)) ++ ([] : List Int32)) = ([(106 : Int32), (97 : Int32), (118 : Int32), (97 : Int32), (58 : Int32), (109 : Int32), (111 : Int32), (100 : Int32), (117 : Int32), (108 : Int32), (101 : Int32), (47 : Int32), d4, d5] : List Int32) then (1 : Int32) else 0))])) tt → SP pg ev below (s₁.setTop (entryFrame mi #[(.int x0), (.int x1), (.int x2), (.int x3)] maxLocals)) tt := fun tt kk => pre187 _ (by
        show SP pg ev below (T185.setTop (mkF mi 507 #[.val (.int x0), .val (.int x1), .val (.int x2), .val (.int x3), .val (.int d4), .val (.int d5), .val (.int d6), .val (.int d7), .val (.int d8), .val (.int d9), .val (.int f10), .val (.int f11), .val (.int f12), .val (.ref b133), .val .null, .val va_162, .val (.ref x_166), .val (.ref b169), .val (.ref x_185), .unset] [])) _
        refine st189 _ ?_
        refine XS.aload X189.here hx rfl (hb hby at_591) rfl rfl ?_
        refine st192 _ ?_
        refine XS.dup X192.here hx rfl (hb hby at_596) rfl rfl ?_
        refine XS.aload X192.here hx rfl (hb hby at_597) rfl rfl ?_
        refine st200.trans ?_
        refine st208.trans ?_
        exact kk)
      have pre210 : ∀ tt, SP pg ev below (T208.setTop (mkF mi 605 #[.val (.int x0), .val (.int x1), .val (.int x2), .val (.int x3), .val (.int d4), .val (.int d5), .val (.int d6), .val (.int d7), .val (.int d8), .val (.int d9), .val (.int f10), .val (.int f11), .val (.int f12), .val (.ref b133), .val .null, .val va_162, .val (.ref x_166), .val (.ref b169), .val (.ref x_185), .val (.ref b_189)] [(.int 1)])) tt → SP pg ev below (s₁.setTop (entryFrame mi #[(.int x0), (.int x1), (.int x2), (.int x3)] maxLocals)) tt := fun tt kk => pre209 tt (by rw [if_pos (show (((([] : List Int32) ++ ([(106 : Int32), (97 : Int32), (118 : Int32), (97 : Int32), (58 : Int32), (109 : Int32), (111 : Int32), (100 : Int32), (117 : Int32), (108 : Int32), (101 : Int32), (47 : Int32)] : List Int32)) ++ ([d4, d5] : List Int32)) ++ ([] : List Int32)) = ([(106 : Int32), (97 : Int32), (118 : Int32), (97 : Int32), (58 : Int32), (109 : Int32), (111 : Int32), (100 : Int32), (117 : Int32), (108 : Int32), (101 : Int32), (47 : Int32), d4, d5] : List Int32) from rfl)]; exact kk)
      obtain ⟨fs, hr, hrun, hended, hWe⟩ := X208.leaveW hS (show _ ≤ T208.heap.size by rw [hh208]; exact (Nat.le_trans hk (Nat.le_trans (Nat.le_trans Kq189.1 E192.1) Kq200.1))) (v := some (.int 1)) (fun hq => by rw [Bd.returns] at hq; cases hq)
      refine ⟨_, _, pre210 _ ?_, hrun, hended, _, _, rfl, ?_, ?_, hWe.1, hWe.2.1, hWe.2.2.1, hWe.2.2.2.mono (by decide) (by decide)⟩
      · show SP pg ev below (T208.setTop (mkF mi 605 #[.val (.int x0), .val (.int x1), .val (.int x2), .val (.int x3), .val (.int d4), .val (.int d5), .val (.int d6), .val (.int d7), .val (.int d8), .val (.int d9), .val (.int f10), .val (.int f11), .val (.int f12), .val (.ref b133), .val .null, .val va_162, .val (.ref x_166), .val (.ref b169), .val (.ref x_185), .val (.ref b_189)] [(.int 1)])) _
        exact retN X208 hx (t := .boolean) Bd.returns (by simp) (hb hby at_605) hr
      · show Q_law Z x0 x1 x2 x3 zc hE n0 _ T208.heap _
        rw [hh208]
        exact ⟨rfl, N208⟩
      · show CHr Z ELs sb.vm sb.heap T208.vm T208.heap
        rw [hh, hh208]
        exact CHr.trans C202 (CHv.at X208 hZ hEL C202.1)
    · obtain ⟨T211, h211, X211, e211, E211, A211, D211, -, st211⟩ := newO X153 hx hZ hown (wd4 hw) (wd5 hw) (wd6 hw) rfl (g := (mkF mi 134 #[.val (.int x0), .val (.int x1), .val (.int x2), .val (.int x3), .val (.int d4), .val (.int d5), .val (.int d6), .val (.int d7), .val (.int d8), .val (.int d9), .val (.int f10), .val (.int f11), .val (.int f12), .val (.ref b133), .unset, .unset, .unset, .unset, .unset, .unset] [])) rfl (hb hby at_134) (by decide) (by decide)
      obtain ⟨b211, q211⟩ : ∃ z, z = T153.heap.size := ⟨_, rfl⟩
      rw [← q211] at A211 D211 st211
      have c212 := CHr.ext E211 C156.1
      have C213 := CHr.trans C156 c212
      have f214 : Fld Z h211 b211 c1_ "coder" "B" (.int 0) := D211 (Or.inr (wd31 hw)) (ty := .byte) (by decide)
      have f215 : Fld Z h211 b211 c1_ "value" "[B" .null := D211 (Or.inr (wd33 hw)) (ty := (.array .byte)) (by decide)
      obtain ⟨T216, h216, k216, X216, e216, E216, A216, st216⟩ := newP (aty := .char) X211 hx hZ (wd7 hw) e211 (g := (mkF mi 139 #[.val (.int x0), .val (.int x1), .val (.int x2), .val (.int x3), .val (.int d4), .val (.int d5), .val (.int d6), .val (.int d7), .val (.int d8), .val (.int d9), .val (.int f10), .val (.int f11), .val (.int f12), .val (.ref b133), .unset, .unset, .unset, .unset, .unset, .unset] [(.int 2), (.ref b211), (.ref b211)])) rfl (hb hby at_139) rfl (by decide) (cap := 2) (by decide) (by decide) (by decide) (by decide)
      obtain ⟨b216, q216⟩ : ∃ z, z = h211.size := ⟨_, rfl⟩
      rw [← q216] at A216 st216
      have c217 := CHr.ext E216 C213.1
      have C218 := CHr.trans C213 c217
      have f219 : Arv Z h216 b216 k216 .char (2 : Int32) [(.int 0), (.int 0)] (.int 0) := (Arv.new A216 (by decide)).pad (pad_rep [] (.int 0) 2)
      have O221 : Old Z n0 h211 := ((O149.keep Kq153 (allS g_b133 all0)).ext E211)
      have g_b216 : n0 ≤ b216 := Nat.le_trans (Nat.le_trans (Nat.le_of_eq O221.1.symm) O221.2.1) (Nat.le_of_eq q216.symm)
      obtain ⟨T220, h220, L220, X220, e220, N220, Kq220, f220, st220⟩ := own_sc X216 hx hZ e216 f219 0 (c := d6) (j := (0 : Int32)) (own_nar_c zy_d6) rfl (by decide) (Nat.le_of_ble_eq_true rfl) N153 g_b216 (g := (mkF mi 145 #[.val (.int x0), .val (.int x1), .val (.int x2), .val (.int x3), .val (.int d4), .val (.int d5), .val (.int d6), .val (.int d7), .val (.int d8), .val (.int d9), .val (.int f10), .val (.int f11), .val (.int f12), .val (.ref b133), .unset, .unset, .unset, .unset, .unset, .unset] [(.int d6), (.int 0), (.ref b216), (.ref b216), (.ref b211), (.ref b211)])) rfl rfl (hb hby at_145)
      have c222 := CHr.keep Kq220 (sfS (Safe.arv hZ.alike f219 (by decide)) sf0) C218.1
      have C223 := CHr.trans C218 c222
      obtain ⟨T224, h224, L224, X224, e224, N224, Kq224, f224, st224⟩ := own_sc X220 hx hZ e220 f220 1 (c := d7) (j := (1 : Int32)) (own_nar_c zy_d7) rfl (by decide) (Nat.le_of_ble_eq_true rfl) N220 g_b216 (g := (mkF mi 150 #[.val (.int x0), .val (.int x1), .val (.int x2), .val (.int x3), .val (.int d4), .val (.int d5), .val (.int d6), .val (.int d7), .val (.int d8), .val (.int d9), .val (.int f10), .val (.int f11), .val (.int f12), .val (.ref b133), .unset, .unset, .unset, .unset, .unset, .unset] [(.int d7), (.int 1), (.ref b216), (.ref b216), (.ref b211), (.ref b211)])) rfl rfl (hb hby at_150)
      have c225 := CHr.keep Kq224 (sfS (Safe.arv hZ.alike f220 (by decide)) sf0) C223.1
      have C226 := CHr.trans C223 c225
      have O227 : Old Z n0 h224 := (((O221.ext E216).keep Kq220 (allS g_b216 all0)).keep Kq224 (allS g_b216 all0))
      have f228 : Exa Z h224 b211 c1_ := (((A211.ext E216).keep Kq220).keep Kq224)
      have ne_b211_b216 : b211 ≠ b216 := Nat.ne_of_lt (Nat.lt_of_lt_of_le A211.lt (Nat.le_trans (Nat.le_refl _) (Nat.le_of_eq q216.symm)))
      have f229 : Fld Z h224 b211 c1_ "value" "[B" .null := (((f215.ext E216).keep Kq220 (ninS ne_b211_b216 nin0)).keep Kq224 (ninS ne_b211_b216 nin0))
      have f230 : Fld Z h224 b211 c1_ "coder" "B" (.int 0) := (((f214.ext E216).keep Kq220 (ninS ne_b211_b216 nin0)).keep Kq224 (ninS ne_b211_b216 nin0))
      have O231 : Old Z n0 T153.heap := (O149.keep Kq153 (allS g_b133 all0))
      have g_b211 : n0 ≤ b211 := Nat.le_trans (Nat.le_trans (Nat.le_of_eq O231.1.symm) O231.2.1) (Nat.le_of_eq q211.symm)
      obtain ⟨v232, _, ⟨T232, L232, k232, n232⟩, -, X232, ⟨Lc232, hQ232, l232, y232, z232⟩, st232⟩ := X224.specialBack hx (y := mn44) rfl hown (mvT hZ (wd8 hw)) (mvT hZ (wd9 hw)) (mvT hZ (wd10 hw)) (by decide) (own_nsc (W := 1) hZ hw (wd5 hw) b211 b216 k216 ([d6, d7] : List Int32) zc h224 n0 O227 f228 f229 f230 f224 D0_ g_b211 (Nat.le_of_ble_eq_true rfl : 0 < ([d6, d7] : List Int32).length) (Nat.le_of_ble_eq_true rfl : ([d6, d7] : List Int32).length ≤ 4000) ((own_bdC zy_d6 (own_bdC zy_d7 own_bd0)) : ∀ c ∈ ([d6, d7] : List Int32), ¬ c < 0 ∧ ¬ (255 : Int32) < c) (hzc : ¬ (zc = (0 : Int32))) 2 rfl (by decide) (by decide)) (g := (mkF mi 151 #[.val (.int x0), .val (.int x1), .val (.int x2), .val (.int x3), .val (.int d4), .val (.int d5), .val (.int d6), .val (.int d7), .val (.int d8), .val (.int d9), .val (.int f10), .val (.int f11), .val (.int f12), .val (.ref b133), .unset, .unset, .unset, .unset, .unset, .unset] [(.ref b216), (.ref b211), (.ref b211)])) rfl (by rw [hml]; rfl) (Steps.refl _) (a := b211) (argsL := [(.ref b216)]) (rest := [(.ref b211)]) (lenOf pd_31 rfl) rfl (Nat.le_of_ble_eq_true rfl) (hb hby at_151) (fun _ _ => ⟨rfl, e224, (by decide : 5 + 1 ≤ _), (by decide : 14 + 2 ≤ _)⟩)
      dsimp only [Pt.U, Pt.locs, Pt.cells, Pt.slots] at X232 l232 y232 z232 st232 hQ232
      subst l232 y232 z232
      obtain ⟨t_232, rfl, Nq232, Kq232, fr_t_232, r232_0⟩ := hQ232
      have N232 := Fr.app N224 Nq232
      have sf234 : Safe Z ELs _ h224 b211 := (c225.safe (Nat.lt_of_lt_of_le A211.lt (Nat.le_trans E216.1 Kq220.1)) (c222.safe (Nat.lt_of_lt_of_le A211.lt E216.1) (c217.safe A211.lt (Safe.ext E211 C156.1 (Safe.new (Nat.le_of_eq q211.symm))))))
      have c233 := CHr.keep Kq232 (sfS sf234 sf0) C226.1
      have C235 := CHr.trans C226 c233
      have sf236 : Safe Z ELs _ T232.heap t_232 := (Safe.keep Kq232 (sfS sf234 sf0) C226.1 (Safe.new fr_t_232))
      have pre237 : ∀ tt, SP pg ev below (T232.setTop (mkF mi 160 #[.val (.int x0), .val (.int x1), .val (.int x2), .val (.int x3), .val (.int d4), .val (.int d5), .val (.int d6), .val (.int d7), .val (.int d8), .val (.int d9), .val (.int f10), .val (.int f11), .val (.int f12), .val (.ref b133), .val (.ref b211), .unset, .unset, .unset, .unset, .unset] [])) tt → SP pg ev below (s₁.setTop (entryFrame mi #[(.int x0), (.int x1), (.int x2), (.int x3)] maxLocals)) tt := fun tt kk => pre159 _ (by
        show SP pg ev below (T153.setTop (mkF mi 131 #[.val (.int x0), .val (.int x1), .val (.int x2), .val (.int x3), .val (.int d4), .val (.int d5), .val (.int d6), .val (.int d7), .val (.int d8), .val (.int d9), .val (.int f10), .val (.int f11), .val (.int f12), .val (.ref b133), .unset, .unset, .unset, .unset, .unset, .unset] [(.int f11)])) _
        refine XS.ifNo X153.here hx rfl (hb hby at_131) rfl ((if0 _ _).trans (feq hc158).1) ?_
        refine st211 _ ?_
        refine XS.dup X211.here hx rfl (hb hby at_137) rfl rfl ?_
        refine XS.iconst X211.here hx rfl (hb hby at_138) ?_
        refine st216 _ ?_
        refine XS.dup X216.here hx rfl (hb hby at_141) rfl rfl ?_
        refine XS.iconst X216.here hx rfl (hb hby at_142) ?_
        refine XS.iload X216.here hx rfl (hb hby at_143) rfl ?_
        refine st220 _ ?_
        refine XS.dup X220.here hx rfl (hb hby at_146) rfl rfl ?_
        refine XS.iconst X220.here hx rfl (hb hby at_147) ?_
        refine XS.iload X220.here hx rfl (hb hby at_148) rfl ?_
        refine st224 _ ?_
        refine st232.trans ?_
        refine XS.goto X232.here hx rfl (pc0 := 154) (pc' := 158) rfl (hb hby at_154) (by decide) (by decide) ?_
        refine XS.astore X232.here hx rfl (hb hby at_158) rfl rfl (l' := #[.val (.int x0), .val (.int x1), .val (.int x2), .val (.int x3), .val (.int d4), .val (.int d5), .val (.int d6), .val (.int d7), .val (.int d8), .val (.int d9), .val (.int f10), .val (.int f11), .val (.int f12), .val (.ref b133), .val (.ref b211), .unset, .unset, .unset, .unset, .unset]) rfl ?_
        exact kk)
      have O238 : Old Z n0 T232.heap := (O227.keep Kq232 (allS g_b211 all0))
      obtain ⟨T239, h239, L239, va_239, X239, e239, N239, Kq239, r239_0, st239⟩ := sw_app hw d8 f12 zc (.val (.int x0)) (.val (.int x1)) (.val (.int x2)) (.val (.int x3)) (.val (.int d4)) (.val (.int d5)) (.val (.int d6)) (.val (.int d7)) (.val (.int d9)) (.val (.int f10)) (.val (.int f11)) (.val (.ref b133)) (.val (.ref b211)) (.unset) (.unset) (.unset) (.unset) T232.heap n0 (X232.more (by decide) (by decide)) hx hby hml hZ hown rfl N232 O238 D0_ (z_d8 : ¬ (d8 < (0 : Int32))) (y_d8 : ¬ ((255 : Int32) < d8)) (hzc : ¬ (zc = (0 : Int32)))
      have c240 := CHr.keep Kq239 sf0 C235.1
      have C241 := CHr.trans C235 c240
      have O242 : Old Z n0 h239 := (O238.keep Kq239 all0)
      obtain ⟨v243, _, ⟨T243, L243, k243, n243⟩, -, X243, ⟨Lc243, hQ243, l243, y243, z243⟩, st243⟩ := Jvm.LawKit.callS X239 hx (y := mn29) hown (mvT hZ (wd34 hw)) (mvT hZ (wd35 hw)) (mvT hZ (wd6 hw)) (mvT hZ (wd36 hw)) (by decide) (backOf (W := 0) (rm_vof la Z a0 hw [] d9 zc h239 n0 O242 D0_ (y_d9 : ¬ ((255 : Int32) < d9)) (z_d9 : ¬ (d9 < (0 : Int32))) (hzc : ¬ (zc = (0 : Int32)))) hZ (wd36 hw) (wd6 hw) (by decide) (by decide)) (g := (mkF mi 178 #[.val (.int x0), .val (.int x1), .val (.int x2), .val (.int x3), .val (.int d4), .val (.int d5), .val (.int d6), .val (.int d7), .val (.int d8), .val (.int d9), .val (.int f10), .val (.int f11), .val (.int f12), .val (.ref b133), .val (.ref b211), .val va_239, .unset, .unset, .unset, .unset] [(.int d9)])) rfl (by rw [hml]; rfl) (argsL := [(.int d9)]) (rest := []) (lenOf pd_29 rfl) rfl (Nat.le_of_ble_eq_true rfl) (hb hby at_178) (fun _ _ => ⟨rfl, e239, (by decide : 8 + 2 ≤ _), (by decide : 45 + 5 ≤ _)⟩)
      dsimp only [Pt.U, Pt.locs, Pt.cells, Pt.slots] at X243 l243 y243 z243 st243 hQ243
      subst l243 y243 z243
      obtain ⟨x_243, t_243, rfl, Nq243, Kq243, fr_x_243, fr_t_243, r243_0⟩ := hQ243
      have N243 := Fr.app N239 Nq243
      have c244 := CHr.keep Kq243 sf0 C241.1
      have C245 := CHr.trans C241 c244
      obtain ⟨T246, h246, X246, e246, E246, A246, D246, -, st246⟩ := newO X243 hx hZ hown (wd48 hw) (wd49 hw) (wd50 hw) rfl (g := (mkF mi 183 #[.val (.int x0), .val (.int x1), .val (.int x2), .val (.int x3), .val (.int d4), .val (.int d5), .val (.int d6), .val (.int d7), .val (.int d8), .val (.int d9), .val (.int f10), .val (.int f11), .val (.int f12), .val (.ref b133), .val (.ref b211), .val va_239, .val (.ref x_243), .unset, .unset, .unset] [])) rfl (hb hby at_183) (by decide) (by decide)
      obtain ⟨b246, q246⟩ : ∃ z, z = T243.heap.size := ⟨_, rfl⟩
      rw [← q246] at A246 D246 st246
      have c247 := CHr.ext E246 C245.1
      have C248 := CHr.trans C245 c247
      have f249 : Fld Z h246 b246 c0_ "appName" c4_ .null := D246 (Or.inr (wd118 hw)) (ty := (.object c1_)) (by decide)
      have f250 : Fld Z h246 b246 c0_ c19_ c4_ .null := D246 (Or.inr (wd120 hw)) (ty := (.object c1_)) (by decide)
      have f251 : Fld Z h246 b246 c0_ "beanName" c4_ .null := D246 (Or.inr (wd122 hw)) (ty := (.object c1_)) (by decide)
      have f252 : Fld Z h246 b246 c0_ "viewName" c4_ .null := D246 (Or.inr (wd124 hw)) (ty := (.object c1_)) (by decide)
      have O253 : Old Z n0 h246 := ((O242.keep Kq243 all0).ext E246)
      have f254 : OStr Z h246 va_239 ([d8] : List Int32) := ((r239_0.keep Kq243 ).ext E246)
      have f255 : LStr Z h246 x_243 t_243 ([d9] : List Int32) := (r243_0.ext E246)
      have ne_b133_b216 : b133 ≠ b216 := Nat.ne_of_lt (Nat.lt_of_lt_of_le A133.lt (Nat.le_trans (Nat.le_trans (Nat.le_trans (Nat.le_trans (Nat.le_trans E138.1 Kq142.1) Kq146.1) Kq153.1) E211.1) (Nat.le_of_eq q216.symm)))
      have ne_t_153_b216 : t_153 ≠ b216 := Nat.ne_of_lt (Nat.lt_of_lt_of_le r153_0.ltt (Nat.le_trans E211.1 (Nat.le_of_eq q216.symm)))
      have ne_b133_b211 : b133 ≠ b211 := Nat.ne_of_lt (Nat.lt_of_lt_of_le A133.lt (Nat.le_trans (Nat.le_trans (Nat.le_trans (Nat.le_trans E138.1 Kq142.1) Kq146.1) Kq153.1) (Nat.le_of_eq q211.symm)))
      have ne_t_153_b211 : t_153 ≠ b211 := Nat.ne_of_lt (Nat.lt_of_lt_of_le r153_0.ltt (Nat.le_trans (Nat.le_refl _) (Nat.le_of_eq q211.symm)))
      have f256 : LStr Z h246 b133 t_153 ([d4, d5] : List Int32) := ((((((((r153_0.ext E211).ext E216).keep Kq220 (ninS ne_b133_b216 nin0) (ninS ne_t_153_b216 nin0)).keep Kq224 (ninS ne_b133_b216 nin0) (ninS ne_t_153_b216 nin0)).keep Kq232 (ninS ne_b133_b211 nin0) (ninS ne_t_153_b211 nin0)).keep Kq239 nin0 nin0).keep Kq243 nin0 nin0).ext E246)
      have f257 : LStr Z h246 b211 t_232 ([d6, d7] : List Int32) := (((r232_0.keep Kq239 nin0 nin0).keep Kq243 nin0 nin0).ext E246)
      have O258 : Old Z n0 T243.heap := (O242.keep Kq243 all0)
      have g_b246 : n0 ≤ b246 := Nat.le_trans (Nat.le_trans (Nat.le_of_eq O258.1.symm) O258.2.1) (Nat.le_of_eq q246.symm)
      have ne_x_243_b246 : x_243 ≠ b246 := Nat.ne_of_lt (Nat.lt_of_lt_of_le r243_0.lt (Nat.le_trans (Nat.le_refl _) (Nat.le_of_eq q246.symm)))
      have ne_t_243_b246 : t_243 ≠ b246 := Nat.ne_of_lt (Nat.lt_of_lt_of_le r243_0.ltt (Nat.le_trans (Nat.le_refl _) (Nat.le_of_eq q246.symm)))
      have ne_b133_b246 : b133 ≠ b246 := Nat.ne_of_lt (Nat.lt_of_lt_of_le A133.lt (Nat.le_trans (Nat.le_trans (Nat.le_trans (Nat.le_trans (Nat.le_trans (Nat.le_trans (Nat.le_trans (Nat.le_trans (Nat.le_trans (Nat.le_trans (Nat.le_trans E138.1 Kq142.1) Kq146.1) Kq153.1) E211.1) E216.1) Kq220.1) Kq224.1) Kq232.1) Kq239.1) Kq243.1) (Nat.le_of_eq q246.symm)))
      have ne_t_153_b246 : t_153 ≠ b246 := Nat.ne_of_lt (Nat.lt_of_lt_of_le r153_0.ltt (Nat.le_trans (Nat.le_trans (Nat.le_trans (Nat.le_trans (Nat.le_trans (Nat.le_trans (Nat.le_trans E211.1 E216.1) Kq220.1) Kq224.1) Kq232.1) Kq239.1) Kq243.1) (Nat.le_of_eq q246.symm)))
      have ne_b211_b246 : b211 ≠ b246 := Nat.ne_of_lt (Nat.lt_of_lt_of_le A211.lt (Nat.le_trans (Nat.le_trans (Nat.le_trans (Nat.le_trans (Nat.le_trans (Nat.le_trans E216.1 Kq220.1) Kq224.1) Kq232.1) Kq239.1) Kq243.1) (Nat.le_of_eq q246.symm)))
      have ne_t_232_b246 : t_232 ≠ b246 := Nat.ne_of_lt (Nat.lt_of_lt_of_le r232_0.ltt (Nat.le_trans (Nat.le_trans Kq239.1 Kq243.1) (Nat.le_of_eq q246.symm)))
      obtain ⟨v259, _, ⟨T259, L259, k259, n259⟩, -, X259, s259, gr259, ⟨Lc259, hQ259, l259, y259, z259, c259⟩, st259⟩ := X246.specialBackS hx (y := mn41) rfl hown (mvT hZ (wd51 hw)) (mvT hZ (wd52 hw)) (mvT hZ (wd53 hw)) (by decide) (backOfSH (W := 1) (rm_gin1 la Z a0 hw [] b246 va_239 ([d8] : List Int32) x_243 t_243 ([d9] : List Int32) b133 t_153 ([d4, d5] : List Int32) b211 t_232 ([d6, d7] : List Int32) zc h246 n0 O253 A246 f249 f250 f251 f252 f254 f255 f256 f257 D0_ g_b246 ne_x_243_b246 ne_t_243_b246 ne_b133_b246 ne_t_153_b246 ne_b211_b246 ne_t_232_b246 (OStr.isRef f254 : va_239.isRef = true) (Nat.succ_ne_zero _ : ([d8] : List Int32).length ≠ 0) (own_a1 s47_d8 : ∀ c ∈ ([d8] : List Int32), ¬ ((c.toInt8.toInt32) = (47 : Int32))) (own_a1 s33_d8 : ∀ c ∈ ([d8] : List Int32), ¬ ((c.toInt8.toInt32) = (33 : Int32))) (Nat.succ_ne_zero _ : ([d9] : List Int32).length ≠ 0) (own_a1 s47_d9 : ∀ c ∈ ([d9] : List Int32), ¬ ((c.toInt8.toInt32) = (47 : Int32))) (own_a1 s33_d9 : ∀ c ∈ ([d9] : List Int32), ¬ ((c.toInt8.toInt32) = (33 : Int32))) (Nat.succ_ne_zero _ : ([d4, d5] : List Int32).length ≠ 0) (own_a2 s47_d4 s47_d5 : ∀ c ∈ ([d4, d5] : List Int32), ¬ ((c.toInt8.toInt32) = (47 : Int32))) (own_a2 s33_d4 s33_d5 : ∀ c ∈ ([d4, d5] : List Int32), ¬ ((c.toInt8.toInt32) = (33 : Int32))) (Nat.succ_ne_zero _ : ([d6, d7] : List Int32).length ≠ 0) (own_a2 s47_d6 s47_d7 : ∀ c ∈ ([d6, d7] : List Int32), ¬ ((c.toInt8.toInt32) = (47 : Int32))) (own_a2 s33_d6 s33_d7 : ∀ c ∈ ([d6, d7] : List Int32), ¬ ((c.toInt8.toInt32) = (33 : Int32))) (hzc : ¬ (zc = (0 : Int32)))) hZ (wd53 hw) (wd50 hw) (by decide) (by decide) hEL C248.1) (g := (mkF mi 195 #[.val (.int x0), .val (.int x1), .val (.int x2), .val (.int x3), .val (.int d4), .val (.int d5), .val (.int d6), .val (.int d7), .val (.int d8), .val (.int d9), .val (.int f10), .val (.int f11), .val (.int f12), .val (.ref b133), .val (.ref b211), .val va_239, .val (.ref x_243), .unset, .unset, .unset] [(.ref b211), (.ref b133), (.ref x_243), va_239, (.ref b246), (.ref b246)])) rfl (by rw [hml]; rfl) (Steps.refl _) (a := b246) (argsL := [va_239, (.ref x_243), (.ref b133), (.ref b211)]) (rest := [(.ref b246)]) (lenOf pd_27 rfl) rfl (Nat.le_of_ble_eq_true rfl) (hb hby at_195) (fun _ _ => ⟨rfl, e246, (by decide : 11 + 20 ≤ _), (by decide : 54 + 308 ≤ _)⟩)
      dsimp only [Pt.U, Pt.locs, Pt.cells, Pt.slots] at X259 s259 gr259 l259 y259 z259 c259 st259 hQ259
      subst l259 y259 z259
      obtain ⟨X259, hS, hZ, hown⟩ := rebS hS (show _ ≤ T246.heap.size by rw [e246]; exact (Nat.le_trans hk (Nat.le_trans (Nat.le_trans (Nat.le_trans (Nat.le_trans (Nat.le_trans (Nat.le_trans (Nat.le_trans (Nat.le_trans (Nat.le_trans (Nat.le_trans (Nat.le_trans (Nat.le_trans E133.1 E138.1) Kq142.1) Kq146.1) Kq153.1) E211.1) E216.1) Kq220.1) Kq224.1) Kq232.1) Kq239.1) Kq243.1) E246.1))) X259 s259 gr259 hZ hown
      have hk : T259.heap.size ≤ T259.heap.size := Nat.le_refl _
      obtain ⟨rfl, Nq259, Kq259, r259_0, r259_1, r259_2, r259_3⟩ := hQ259
      have N259 := Fr.app N243 Nq259
      have C260 := CHr.trans C248 c259
      have O261 : Old Z n0 T259.heap := (O253.keep Kq259 (allS g_b246 all0))
      have f262 : LStr Z T259.heap b133 t_153 ([d4, d5] : List Int32) := (f256.keep Kq259 (ninS ne_b133_b246 nin0) (ninS ne_t_153_b246 nin0))
      have f263 : LStr Z T259.heap b211 t_232 ([d6, d7] : List Int32) := (f257.keep Kq259 (ninS ne_b211_b246 nin0) (ninS ne_t_232_b246 nin0))
      obtain ⟨cq264, kq264, q264a, q264b, q264c⟩ := isOf hZ rfl r259_0
      obtain ⟨v264, _, ⟨T264, L264, k264, n264⟩, -, X264, s264, gr264, ⟨Lc264, hQ264, l264, y264, z264, c264⟩, st264⟩ := X259.virtualBackS hx (y := mn43) (z := mn43) hown (mvT hZ (wd125 hw)) (mvT hZ (wd126 hw)) (notFace_of_selects (args := #[]) (mvT hZ (wd128 hw))) (mvT hZ (wd128 hw)) (mvT hZ (wd127 hw)) (by decide) (backOfSH (W := 0) (rm_im2 la Z a0 hw [] b246 b133 t_153 ([d4, d5] : List Int32) b211 t_232 ([d6, d7] : List Int32) zc T259.heap n0 O261 r259_0 r259_2 f262 r259_3 f263 D0_ (rfl : ([d4, d5] : List Int32).length = 2) (rfl : ([d6, d7] : List Int32).length = 2) (hzc : ¬ (zc = (0 : Int32)))) hZ (wd129 hw) (wd50 hw) (by decide) (by decide) hEL C260.1) q264a q264c (g := (mkF mi 202 #[.val (.int x0), .val (.int x1), .val (.int x2), .val (.int x3), .val (.int d4), .val (.int d5), .val (.int d6), .val (.int d7), .val (.int d8), .val (.int d9), .val (.int f10), .val (.int f11), .val (.int f12), .val (.ref b133), .val (.ref b211), .val va_239, .val (.ref x_243), .val (.ref b246), .unset, .unset] [(.ref b246)])) rfl (by rw [hml]; rfl) (Steps.refl _) (argsL := []) (rest := []) (lenOf pd_22 rfl) rfl (Nat.le_of_ble_eq_true rfl) (hb hby at_202) (fun _ _ => ⟨rfl, rfl, (by decide : 31 + 13 ≤ _), (by decide : 362 + 468 ≤ _)⟩)
      dsimp only [Pt.U, Pt.locs, Pt.cells, Pt.slots] at X264 s264 gr264 l264 y264 z264 c264 st264 hQ264
      subst l264 y264 z264
      obtain ⟨X264, hS, hZ, hown⟩ := rebS hS (show _ ≤ T259.heap.size from hk) X264 s264 gr264 hZ hown
      have hk : T264.heap.size ≤ T264.heap.size := Nat.le_refl _
      obtain ⟨x_264, t_264, rfl, Nq264, Kq264, fr_x_264, fr_t_264, r264_0⟩ := hQ264
      have N264 := Fr.app N259 Nq264
      have C265 := CHr.trans C260 c264
      have pre266 : ∀ tt, SP pg ev below (T264.setTop (mkF mi 402 #[.val (.int x0), .val (.int x1), .val (.int x2), .val (.int x3), .val (.int d4), .val (.int d5), .val (.int d6), .val (.int d7), .val (.int d8), .val (.int d9), .val (.int f10), .val (.int f11), .val (.int f12), .val (.ref b133), .val (.ref b211), .val va_239, .val (.ref x_243), .val (.ref b246), .val (.ref x_264), .unset] [])) tt → SP pg ev below (s₁.setTop (entryFrame mi #[(.int x0), (.int x1), (.int x2), (.int x3)] maxLocals)) tt := fun tt kk => pre237 _ (by
        show SP pg ev below (T232.setTop (mkF mi 160 #[.val (.int x0), .val (.int x1), .val (.int x2), .val (.int x3), .val (.int d4), .val (.int d5), .val (.int d6), .val (.int d7), .val (.int d8), .val (.int d9), .val (.int f10), .val (.int f11), .val (.int f12), .val (.ref b133), .val (.ref b211), .unset, .unset, .unset, .unset, .unset] [])) _
        refine st239 _ ?_
        refine XS.iload X239.here hx rfl (hb hby at_176) rfl ?_
        refine st243 _ ?_
        refine XS.astore X243.here hx rfl (hb hby at_181) rfl rfl (l' := #[.val (.int x0), .val (.int x1), .val (.int x2), .val (.int x3), .val (.int d4), .val (.int d5), .val (.int d6), .val (.int d7), .val (.int d8), .val (.int d9), .val (.int f10), .val (.int f11), .val (.int f12), .val (.ref b133), .val (.ref b211), .val va_239, .val (.ref x_243), .unset, .unset, .unset]) rfl ?_
        refine st246 _ ?_
        refine XS.dup X246.here hx rfl (hb hby at_186) rfl rfl ?_
        refine XS.aload X246.here hx rfl (hb hby at_187) rfl (OStr.isRef r239_0) ?_
        refine XS.aload X246.here hx rfl (hb hby at_189) rfl rfl ?_
        refine XS.aload X246.here hx rfl (hb hby at_191) rfl rfl ?_
        refine XS.aload X246.here hx rfl (hb hby at_193) rfl rfl ?_
        refine st259.trans ?_
        refine XS.astore X259.here hx rfl (hb hby at_198) rfl rfl (l' := #[.val (.int x0), .val (.int x1), .val (.int x2), .val (.int x3), .val (.int d4), .val (.int d5), .val (.int d6), .val (.int d7), .val (.int d8), .val (.int d9), .val (.int f10), .val (.int f11), .val (.int f12), .val (.ref b133), .val (.ref b211), .val va_239, .val (.ref x_243), .val (.ref b246), .unset, .unset]) rfl ?_
        refine XS.aload X259.here hx rfl (hb hby at_200) rfl rfl ?_
        refine st264.trans ?_
        refine XS.astore X264.here hx rfl (hb hby at_205) rfl rfl (l' := #[.val (.int x0), .val (.int x1), .val (.int x2), .val (.int x3), .val (.int d4), .val (.int d5), .val (.int d6), .val (.int d7), .val (.int d8), .val (.int d9), .val (.int f10), .val (.int f11), .val (.int f12), .val (.ref b133), .val (.ref b211), .val va_239, .val (.ref x_243), .val (.ref b246), .val (.ref x_264), .unset]) rfl ?_
        refine XS.iload X264.here hx rfl (hb hby at_207) rfl ?_
        refine XS.ifYes X264.here hx rfl (pc0 := 209) (pc' := 397) rfl (hb hby at_209) rfl ((if0 _ _).trans (teq hc131).1) (by decide) (by decide) ?_
        refine XS.iload X264.here hx rfl (hb hby at_397) rfl ?_
        refine XS.ifNo X264.here hx rfl (hb hby at_399) rfl ((if0 _ _).trans (feq hc158).1) ?_
        exact kk)
      have O267 : Old Z n0 T264.heap := (O261.keep Kq264 all0)
      obtain ⟨T268, h268, L268, b_268, kb_268, X268, e268, N268, Kq268, fr_b_268, r268_0, st268⟩ := sw_fill17 hw d4 d5 d6 d7 (.val (.int x0)) (.val (.int x1)) (.val (.int x2)) (.val (.int x3)) (.val (.int d8)) (.val (.int d9)) (.val (.int f10)) (.val (.int f11)) (.val (.int f12)) (.val (.ref b133)) (.val (.ref b211)) (.val va_239) (.val (.ref x_243)) (.val (.ref b246)) (.val (.ref x_264)) T264.heap n0 (X264.more (by decide) (by decide)) hx hby hml hZ hown rfl N264 O267 (zy_d4 : ¬ (d4 < (0 : Int32)) ∧ ¬ ((255 : Int32) < d4)) (zy_d5 : ¬ (d5 < (0 : Int32)) ∧ ¬ ((255 : Int32) < d5)) (zy_d6 : ¬ (d6 < (0 : Int32)) ∧ ¬ ((255 : Int32) < d6)) (zy_d7 : ¬ (d7 < (0 : Int32)) ∧ ¬ ((255 : Int32) < d7))
      have c269 := CHr.keep Kq268 sf0 C265.1
      have C270 := CHr.trans C265 c269
      obtain ⟨T271, h271, X271, e271, E271, A271, D271, -, st271⟩ := newO X268 hx hZ hown (wd4 hw) (wd5 hw) (wd6 hw) e268 (g := (mkF mi 593 #[.val (.int x0), .val (.int x1), .val (.int x2), .val (.int x3), .val (.int d4), .val (.int d5), .val (.int d6), .val (.int d7), .val (.int d8), .val (.int d9), .val (.int f10), .val (.int f11), .val (.int f12), .val (.ref b133), .val (.ref b211), .val va_239, .val (.ref x_243), .val (.ref b246), .val (.ref x_264), .val (.ref b_268)] [(.ref x_264)])) rfl (hb hby at_593) (by decide) (by decide)
      obtain ⟨b271, q271⟩ : ∃ z, z = h268.size := ⟨_, rfl⟩
      rw [← q271] at A271 D271 st271
      have c272 := CHr.ext E271 C270.1
      have C273 := CHr.trans C270 c272
      have f274 : Fld Z h271 b271 c1_ "coder" "B" (.int 0) := D271 (Or.inr (wd31 hw)) (ty := .byte) (by decide)
      have f275 : Fld Z h271 b271 c1_ "value" "[B" .null := D271 (Or.inr (wd33 hw)) (ty := (.array .byte)) (by decide)
      have O276 : Old Z n0 h271 := ((O267.keep Kq268 all0).ext E271)
      have f277 : Arv Z h271 b_268 kb_268 .char (17 : Int32) [(.int 106), (.int 97), (.int 118), (.int 97), (.int 58), (.int 109), (.int 111), (.int 100), (.int 117), (.int 108), (.int 101), (.int 47), (.int d4), (.int d5), (.int 33), (.int d6), (.int d7)] (.int 0) := (r268_0.ext E271)
      have O278 : Old Z n0 h268 := (O267.keep Kq268 all0)
      have g_b271 : n0 ≤ b271 := Nat.le_trans (Nat.le_trans (Nat.le_of_eq O278.1.symm) O278.2.1) (Nat.le_of_eq q271.symm)
      obtain ⟨v279, _, ⟨T279, L279, k279, n279⟩, -, X279, ⟨Lc279, hQ279, l279, y279, z279⟩, st279⟩ := X271.specialBack hx (y := mn44) rfl hown (mvT hZ (wd8 hw)) (mvT hZ (wd9 hw)) (mvT hZ (wd10 hw)) (by decide) (own_nsc (W := 2) hZ hw (wd5 hw) b271 b_268 kb_268 ([(106 : Int32), (97 : Int32), (118 : Int32), (97 : Int32), (58 : Int32), (109 : Int32), (111 : Int32), (100 : Int32), (117 : Int32), (108 : Int32), (101 : Int32), (47 : Int32), d4, d5, (33 : Int32), d6, d7] : List Int32) zc h271 n0 O276 A271 f275 f274 f277 D0_ g_b271 (Nat.le_of_ble_eq_true rfl : 0 < ([(106 : Int32), (97 : Int32), (118 : Int32), (97 : Int32), (58 : Int32), (109 : Int32), (111 : Int32), (100 : Int32), (117 : Int32), (108 : Int32), (101 : Int32), (47 : Int32), d4, d5, (33 : Int32), d6, d7] : List Int32).length) (Nat.le_of_ble_eq_true rfl : ([(106 : Int32), (97 : Int32), (118 : Int32), (97 : Int32), (58 : Int32), (109 : Int32), (111 : Int32), (100 : Int32), (117 : Int32), (108 : Int32), (101 : Int32), (47 : Int32), d4, d5, (33 : Int32), d6, d7] : List Int32).length ≤ 4000) ((own_bdC (by decide) (own_bdC (by decide) (own_bdC (by decide) (own_bdC (by decide) (own_bdC (by decide) (own_bdC (by decide) (own_bdC (by decide) (own_bdC (by decide) (own_bdC (by decide) (own_bdC (by decide) (own_bdC (by decide) (own_bdC (by decide) (own_bdC zy_d4 (own_bdC zy_d5 (own_bdC (by decide) (own_bdC zy_d6 (own_bdC zy_d7 own_bd0))))))))))))))))) : ∀ c ∈ ([(106 : Int32), (97 : Int32), (118 : Int32), (97 : Int32), (58 : Int32), (109 : Int32), (111 : Int32), (100 : Int32), (117 : Int32), (108 : Int32), (101 : Int32), (47 : Int32), d4, d5, (33 : Int32), d6, d7] : List Int32), ¬ c < 0 ∧ ¬ (255 : Int32) < c) (hzc : ¬ (zc = (0 : Int32))) 17 rfl (by decide) (by decide)) (g := (mkF mi 599 #[.val (.int x0), .val (.int x1), .val (.int x2), .val (.int x3), .val (.int d4), .val (.int d5), .val (.int d6), .val (.int d7), .val (.int d8), .val (.int d9), .val (.int f10), .val (.int f11), .val (.int f12), .val (.ref b133), .val (.ref b211), .val va_239, .val (.ref x_243), .val (.ref b246), .val (.ref x_264), .val (.ref b_268)] [(.ref b_268), (.ref b271), (.ref b271), (.ref x_264)])) rfl (by rw [hml]; rfl) (Steps.refl _) (a := b271) (argsL := [(.ref b_268)]) (rest := [(.ref b271), (.ref x_264)]) (lenOf pd_31 rfl) rfl (Nat.le_of_ble_eq_true rfl) (hb hby at_599) (fun _ _ => ⟨rfl, e271, (by decide : 72 + 1 ≤ _), (by decide : 10021 + 17 ≤ _)⟩)
      dsimp only [Pt.U, Pt.locs, Pt.cells, Pt.slots] at X279 l279 y279 z279 st279 hQ279
      subst l279 y279 z279
      obtain ⟨t_279, rfl, Nq279, Kq279, fr_t_279, r279_0⟩ := hQ279
      have N279 := Fr.app N268 Nq279
      have c280 := CHr.keep Kq279 (sfS (Safe.ext E271 C270.1 (Safe.new (Nat.le_of_eq q271.symm))) sf0) C273.1
      have C281 := CHr.trans C273 c280
      have sf282 : Safe Z ELs _ T279.heap t_279 := (Safe.keep Kq279 (sfS (Safe.ext E271 C270.1 (Safe.new (Nat.le_of_eq q271.symm))) sf0) C273.1 (Safe.new fr_t_279))
      have heq : ∀ d ∈ StrChars.Road.wordsEq, d.before a0 Z = true := fun d hd => hw d ((by decide +kernel : ∀ d ∈ StrChars.Road.wordsEq, d ∈ tables_1) d hd)
      have ne_x_264_b271 : x_264 ≠ b271 := Nat.ne_of_lt (Nat.lt_of_lt_of_le r264_0.lt (Nat.le_trans Kq268.1 (Nat.le_of_eq q271.symm)))
      have ne_t_264_b271 : t_264 ≠ b271 := Nat.ne_of_lt (Nat.lt_of_lt_of_le r264_0.ltt (Nat.le_trans Kq268.1 (Nat.le_of_eq q271.symm)))
      have f283 : LStr Z T279.heap x_264 t_264 (((([] : List Int32) ++ ([(106 : Int32), (97 : Int32), (118 : Int32), (97 : Int32), (58 : Int32), (109 : Int32), (111 : Int32), (100 : Int32), (117 : Int32), (108 : Int32), (101 : Int32), (47 : Int32)] : List Int32)) ++ ([d4, d5] : List Int32)) ++ ((([] : List Int32) ++ ([(33 : Int32)] : List Int32)) ++ ([d6, d7] : List Int32))) := (((r264_0.keep Kq268 nin0 nin0).ext E271).keep Kq279 (ninS ne_x_264_b271 nin0) (ninS ne_t_264_b271 nin0))
      obtain ⟨sE284, sV284, sC284, ⟨kb284, sK284⟩, sb284, sl284⟩ := id f283
      obtain ⟨sE285, sV285, sC285, ⟨kb285, sK285⟩, sb285, sl285⟩ := id r279_0
      have O286 : Old Z n0 T279.heap := (O276.keep Kq279 (allS g_b271 all0))
      obtain ⟨cq287, kq287, q287a, q287b, q287c⟩ := isOf hZ rfl (f283).1
      obtain ⟨v287, _, ⟨T287, L287, k287, n287⟩, -, X287, ⟨Lc287, ⟨hv287, hL287, hh287⟩, l287, y287, z287⟩, st287⟩ := X279.virtualBack hx (y := mn45) (z := mn45) hown (mvT hZ (wd241 hw)) (mvT hZ (wd242 hw)) (notFace_of_selects (args := #[]) (mvT hZ (wd244 hw))) (mvT hZ (wd244 hw)) (mvT hZ (wd243 hw)) (by decide) (StrChars.Road.eqW (W := 0) hZ heq (kI := 4) (wd5 hw) sE284 sV284 sC284 sK284 (own_cod sb284) (own_up sb284) sl284 sE285 sV285 sC285 sK285 (own_cod sb285) (own_up sb285) sl285 (D0_.ext O286.2) hzc (by decide) (by decide)) q287a q287c (g := (mkF mi 602 #[.val (.int x0), .val (.int x1), .val (.int x2), .val (.int x3), .val (.int d4), .val (.int d5), .val (.int d6), .val (.int d7), .val (.int d8), .val (.int d9), .val (.int f10), .val (.int f11), .val (.int f12), .val (.ref b133), .val (.ref b211), .val va_239, .val (.ref x_243), .val (.ref b246), .val (.ref x_264), .val (.ref b_268)] [(.ref b271), (.ref x_264)])) rfl (by rw [hml]; rfl) (Steps.refl _) (argsL := [(.ref b271)]) (rest := []) (lenOf pd_32 rfl) rfl (Nat.le_of_ble_eq_true rfl) (hb hby at_602) (fun _ _ => ⟨rfl, rfl, (by decide : 73 + 0 ≤ _), (by decide : 10038 + 0 ≤ _)⟩)
      dsimp only [Pt.U, Pt.locs, Pt.cells, Pt.slots] at X287 l287 y287 z287 st287 hv287 hL287 hh287
      have hw287 : v287 = some (.int (if (((([] : List Int32) ++ ([(106 : Int32), (97 : Int32), (118 : Int32), (97 : Int32), (58 : Int32), (109 : Int32), (111 : Int32), (100 : Int32), (117 : Int32), (108 : Int32), (101 : Int32), (47 : Int32)] : List Int32)) ++ ([d4, d5] : List Int32)) ++ ((([] : List Int32) ++ ([(33 : Int32)] : List Int32)) ++ ([d6, d7] : List Int32))) = ([(106 : Int32), (97 : Int32), (118 : Int32), (97 : Int32), (58 : Int32), (109 : Int32), (111 : Int32), (100 : Int32), (117 : Int32), (108 : Int32), (101 : Int32), (47 : Int32), d4, d5, (33 : Int32), d6, d7] : List Int32) then (1 : Int32) else 0)) := by rcases hv287 with ⟨q1, q2⟩ | ⟨q1, q2⟩; (rw [q1, if_pos q2]); (rw [q1, if_neg q2])
      clear hv287
      subst hw287 hL287
      subst l287 y287 z287
      have N287 := Fr.app N279 (Fr.nil n0)
      have pre288 : ∀ tt, SP pg ev below (T287.setTop (mkF mi 605 #[.val (.int x0), .val (.int x1), .val (.int x2), .val (.int x3), .val (.int d4), .val (.int d5), .val (.int d6), .val (.int d7), .val (.int d8), .val (.int d9), .val (.int f10), .val (.int f11), .val (.int f12), .val (.ref b133), .val (.ref b211), .val va_239, .val (.ref x_243), .val (.ref b246), .val (.ref x_264), .val (.ref b_268)] [(.int (if (((([] : List Int32) ++ ([(106 : Int32), (97 : Int32), (118 : Int32), (97 : Int32), (58 : Int32), (109 : Int32), (111 : Int32), (100 : Int32), (117 : Int32), (108 : Int32), (101 : Int32), (47 : Int32)] : List Int32)) ++ ([d4, d5] : List Int32)) ++ ((([] : List Int32) ++ ([(33 : Int32)] : List Int32)) ++ ([d6, d7] : List Int32))) = ([(106 : Int32), (97 : Int32), (118 : Int32), (97 : Int32), (58 : Int32), (109 : Int32), (111 : Int32), (100 : Int32), (117 : Int32), (108 : Int32), (101 : Int32), (47 : Int32), d4, d5, (33 : Int32), d6, d7] : List Int32) then (1 : Int32) else 0))])) tt → SP pg ev below (s₁.setTop (entryFrame mi #[(.int x0), (.int x1), (.int x2), (.int x3)] maxLocals)) tt := fun tt kk => pre266 _ (by
        show SP pg ev below (T264.setTop (mkF mi 402 #[.val (.int x0), .val (.int x1), .val (.int x2), .val (.int x3), .val (.int d4), .val (.int d5), .val (.int d6), .val (.int d7), .val (.int d8), .val (.int d9), .val (.int f10), .val (.int f11), .val (.int f12), .val (.ref b133), .val (.ref b211), .val va_239, .val (.ref x_243), .val (.ref b246), .val (.ref x_264), .unset] [])) _
        refine st268 _ ?_
        refine XS.aload X268.here hx rfl (hb hby at_591) rfl rfl ?_
        refine st271 _ ?_
        refine XS.dup X271.here hx rfl (hb hby at_596) rfl rfl ?_
        refine XS.aload X271.here hx rfl (hb hby at_597) rfl rfl ?_
        refine st279.trans ?_
        refine st287.trans ?_
        exact kk)
      have pre289 : ∀ tt, SP pg ev below (T287.setTop (mkF mi 605 #[.val (.int x0), .val (.int x1), .val (.int x2), .val (.int x3), .val (.int d4), .val (.int d5), .val (.int d6), .val (.int d7), .val (.int d8), .val (.int d9), .val (.int f10), .val (.int f11), .val (.int f12), .val (.ref b133), .val (.ref b211), .val va_239, .val (.ref x_243), .val (.ref b246), .val (.ref x_264), .val (.ref b_268)] [(.int 1)])) tt → SP pg ev below (s₁.setTop (entryFrame mi #[(.int x0), (.int x1), (.int x2), (.int x3)] maxLocals)) tt := fun tt kk => pre288 tt (by rw [if_pos (show (((([] : List Int32) ++ ([(106 : Int32), (97 : Int32), (118 : Int32), (97 : Int32), (58 : Int32), (109 : Int32), (111 : Int32), (100 : Int32), (117 : Int32), (108 : Int32), (101 : Int32), (47 : Int32)] : List Int32)) ++ ([d4, d5] : List Int32)) ++ ((([] : List Int32) ++ ([(33 : Int32)] : List Int32)) ++ ([d6, d7] : List Int32))) = ([(106 : Int32), (97 : Int32), (118 : Int32), (97 : Int32), (58 : Int32), (109 : Int32), (111 : Int32), (100 : Int32), (117 : Int32), (108 : Int32), (101 : Int32), (47 : Int32), d4, d5, (33 : Int32), d6, d7] : List Int32) from rfl)]; exact kk)
      obtain ⟨fs, hr, hrun, hended, hWe⟩ := X287.leaveW hS (show _ ≤ T287.heap.size by rw [hh287]; exact (Nat.le_trans hk (Nat.le_trans (Nat.le_trans Kq268.1 E271.1) Kq279.1))) (v := some (.int 1)) (fun hq => by rw [Bd.returns] at hq; cases hq)
      refine ⟨_, _, pre289 _ ?_, hrun, hended, _, _, rfl, ?_, ?_, hWe.1, hWe.2.1, hWe.2.2.1, hWe.2.2.2.mono (by decide) (by decide)⟩
      · show SP pg ev below (T287.setTop (mkF mi 605 #[.val (.int x0), .val (.int x1), .val (.int x2), .val (.int x3), .val (.int d4), .val (.int d5), .val (.int d6), .val (.int d7), .val (.int d8), .val (.int d9), .val (.int f10), .val (.int f11), .val (.int f12), .val (.ref b133), .val (.ref b211), .val va_239, .val (.ref x_243), .val (.ref b246), .val (.ref x_264), .val (.ref b_268)] [(.int 1)])) _
        exact retN X287 hx (t := .boolean) Bd.returns (by simp) (hb hby at_605) hr
      · show Q_law Z x0 x1 x2 x3 zc hE n0 _ T287.heap _
        rw [hh287]
        exact ⟨rfl, N287⟩
      · show CHr Z ELs sb.vm sb.heap T287.vm T287.heap
        rw [hh, hh287]
        exact CHr.trans C281 (CHv.at X287 hZ hEL C281.1)
  · obtain ⟨T290, h290, X290, e290, E290, A290, D290, -, st290⟩ := newO X116 hx hZ hown (wd4 hw) (wd5 hw) (wd6 hw) ek116 (g := (mkF mi 89 #[.val (.int x0), .val (.int x1), .val (.int x2), .val (.int x3), .val (.int d4), .val (.int d5), .val (.int d6), .val (.int d7), .val (.int d8), .val (.int d9), .val (.int f10), .val (.int f11), .val (.int f12), .unset, .unset, .unset, .unset, .unset, .unset, .unset] [])) rfl (hb hby at_89) (by decide) (by decide)
    obtain ⟨b290, q290⟩ : ∃ z, z = hE.size := ⟨_, rfl⟩
    rw [← q290] at A290 D290 st290
    have c291 := CHr.ext E290 C0.1
    have C292 := CHr.trans C0 c291
    have f293 : Fld Z h290 b290 c1_ "coder" "B" (.int 0) := D290 (Or.inr (wd31 hw)) (ty := .byte) (by decide)
    have f294 : Fld Z h290 b290 c1_ "value" "[B" .null := D290 (Or.inr (wd33 hw)) (ty := (.array .byte)) (by decide)
    obtain ⟨T295, h295, k295, X295, e295, E295, A295, st295⟩ := newP (aty := .char) X290 hx hZ (wd7 hw) e290 (g := (mkF mi 94 #[.val (.int x0), .val (.int x1), .val (.int x2), .val (.int x3), .val (.int d4), .val (.int d5), .val (.int d6), .val (.int d7), .val (.int d8), .val (.int d9), .val (.int f10), .val (.int f11), .val (.int f12), .unset, .unset, .unset, .unset, .unset, .unset, .unset] [(.int 1), (.ref b290), (.ref b290)])) rfl (hb hby at_94) rfl (by decide) (cap := 1) (by decide) (by decide) (by decide) (by decide)
    obtain ⟨b295, q295⟩ : ∃ z, z = h290.size := ⟨_, rfl⟩
    rw [← q295] at A295 st295
    have c296 := CHr.ext E295 C292.1
    have C297 := CHr.trans C292 c296
    have f298 : Arv Z h295 b295 k295 .char (1 : Int32) [(.int 0)] (.int 0) := (Arv.new A295 (by decide)).pad (pad_rep [] (.int 0) 1)
    have O300 : Old Z n0 h290 := (O.ext E290)
    have g_b295 : n0 ≤ b295 := Nat.le_trans (Nat.le_trans (Nat.le_of_eq O300.1.symm) O300.2.1) (Nat.le_of_eq q295.symm)
    obtain ⟨T299, h299, L299, X299, e299, N299, Kq299, f299, st299⟩ := own_sc X295 hx hZ e295 f298 0 (c := d4) (j := (0 : Int32)) (own_nar_c zy_d4) rfl (by decide) (Nat.le_of_ble_eq_true rfl) N116 g_b295 (g := (mkF mi 100 #[.val (.int x0), .val (.int x1), .val (.int x2), .val (.int x3), .val (.int d4), .val (.int d5), .val (.int d6), .val (.int d7), .val (.int d8), .val (.int d9), .val (.int f10), .val (.int f11), .val (.int f12), .unset, .unset, .unset, .unset, .unset, .unset, .unset] [(.int d4), (.int 0), (.ref b295), (.ref b295), (.ref b290), (.ref b290)])) rfl rfl (hb hby at_100)
    have c301 := CHr.keep Kq299 (sfS (Safe.arv hZ.alike f298 (by decide)) sf0) C297.1
    have C302 := CHr.trans C297 c301
    have O303 : Old Z n0 h299 := ((O300.ext E295).keep Kq299 (allS g_b295 all0))
    have f304 : Exa Z h299 b290 c1_ := ((A290.ext E295).keep Kq299)
    have ne_b290_b295 : b290 ≠ b295 := Nat.ne_of_lt (Nat.lt_of_lt_of_le A290.lt (Nat.le_trans (Nat.le_refl _) (Nat.le_of_eq q295.symm)))
    have f305 : Fld Z h299 b290 c1_ "value" "[B" .null := ((f294.ext E295).keep Kq299 (ninS ne_b290_b295 nin0))
    have f306 : Fld Z h299 b290 c1_ "coder" "B" (.int 0) := ((f293.ext E295).keep Kq299 (ninS ne_b290_b295 nin0))
    have g_b290 : n0 ≤ b290 := Nat.le_trans (Nat.le_trans (Nat.le_of_eq O.1.symm) O.2.1) (Nat.le_of_eq q290.symm)
    obtain ⟨v307, _, ⟨T307, L307, k307, n307⟩, -, X307, ⟨Lc307, hQ307, l307, y307, z307⟩, st307⟩ := X299.specialBack hx (y := mn44) rfl hown (mvT hZ (wd8 hw)) (mvT hZ (wd9 hw)) (mvT hZ (wd10 hw)) (by decide) (own_nsc (W := 1) hZ hw (wd5 hw) b290 b295 k295 ([d4] : List Int32) zc h299 n0 O303 f304 f305 f306 f299 D0_ g_b290 (Nat.le_of_ble_eq_true rfl : 0 < ([d4] : List Int32).length) (Nat.le_of_ble_eq_true rfl : ([d4] : List Int32).length ≤ 4000) ((own_bdC zy_d4 own_bd0) : ∀ c ∈ ([d4] : List Int32), ¬ c < 0 ∧ ¬ (255 : Int32) < c) (hzc : ¬ (zc = (0 : Int32))) 1 rfl (by decide) (by decide)) (g := (mkF mi 101 #[.val (.int x0), .val (.int x1), .val (.int x2), .val (.int x3), .val (.int d4), .val (.int d5), .val (.int d6), .val (.int d7), .val (.int d8), .val (.int d9), .val (.int f10), .val (.int f11), .val (.int f12), .unset, .unset, .unset, .unset, .unset, .unset, .unset] [(.ref b295), (.ref b290), (.ref b290)])) rfl (by rw [hml]; rfl) (Steps.refl _) (a := b290) (argsL := [(.ref b295)]) (rest := [(.ref b290)]) (lenOf pd_31 rfl) rfl (Nat.le_of_ble_eq_true rfl) (hb hby at_101) (fun _ _ => ⟨rfl, e299, (by decide : 2 + 1 ≤ _), (by decide : 5 + 1 ≤ _)⟩)
    dsimp only [Pt.U, Pt.locs, Pt.cells, Pt.slots] at X307 l307 y307 z307 st307 hQ307
    subst l307 y307 z307
    obtain ⟨t_307, rfl, Nq307, Kq307, fr_t_307, r307_0⟩ := hQ307
    have N307 := Fr.app N299 Nq307
    have sf309 : Safe Z ELs _ h299 b290 := (c301.safe (Nat.lt_of_lt_of_le A290.lt E295.1) (c296.safe A290.lt (Safe.ext E290 C0.1 (Safe.new (Nat.le_of_eq q290.symm)))))
    have c308 := CHr.keep Kq307 (sfS sf309 sf0) C302.1
    have C310 := CHr.trans C302 c308
    have sf311 : Safe Z ELs _ T307.heap t_307 := (Safe.keep Kq307 (sfS sf309 sf0) C302.1 (Safe.new fr_t_307))
    have pre313 : ∀ tt, SP pg ev below (T307.setTop (mkF mi 131 #[.val (.int x0), .val (.int x1), .val (.int x2), .val (.int x3), .val (.int d4), .val (.int d5), .val (.int d6), .val (.int d7), .val (.int d8), .val (.int d9), .val (.int f10), .val (.int f11), .val (.int f12), .val (.ref b290), .unset, .unset, .unset, .unset, .unset, .unset] [(.int f11)])) tt → SP pg ev below (s₁.setTop (entryFrame mi #[(.int x0), (.int x1), (.int x2), (.int x3)] maxLocals)) tt := fun tt kk => pre132 _ (by
      show SP pg ev below (T116.setTop (mkF mi 86 #[.val (.int x0), .val (.int x1), .val (.int x2), .val (.int x3), .val (.int d4), .val (.int d5), .val (.int d6), .val (.int d7), .val (.int d8), .val (.int d9), .val (.int f10), .val (.int f11), .val (.int f12), .unset, .unset, .unset, .unset, .unset, .unset, .unset] [(.int f10)])) _
      refine XS.ifNo X116.here hx rfl (hb hby at_86) rfl ((if0 _ _).trans (feq hc131).1) ?_
      refine st290 _ ?_
      refine XS.dup X290.here hx rfl (hb hby at_92) rfl rfl ?_
      refine XS.iconst X290.here hx rfl (hb hby at_93) ?_
      refine st295 _ ?_
      refine XS.dup X295.here hx rfl (hb hby at_96) rfl rfl ?_
      refine XS.iconst X295.here hx rfl (hb hby at_97) ?_
      refine XS.iload X295.here hx rfl (hb hby at_98) rfl ?_
      refine st299 _ ?_
      refine st307.trans ?_
      refine XS.goto X307.here hx rfl (pc0 := 104) (pc' := 127) rfl (hb hby at_104) (by decide) (by decide) ?_
      refine XS.astore X307.here hx rfl (hb hby at_127) rfl rfl (l' := #[.val (.int x0), .val (.int x1), .val (.int x2), .val (.int x3), .val (.int d4), .val (.int d5), .val (.int d6), .val (.int d7), .val (.int d8), .val (.int d9), .val (.int f10), .val (.int f11), .val (.int f12), .val (.ref b290), .unset, .unset, .unset, .unset, .unset, .unset]) rfl ?_
      refine XS.iload X307.here hx rfl (hb hby at_129) rfl ?_
      exact kk)
    by_cases hc312 : f11 = (0 : Int32)
    · have pre314 : ∀ tt, SP pg ev below (T307.setTop (mkF mi 160 #[.val (.int x0), .val (.int x1), .val (.int x2), .val (.int x3), .val (.int d4), .val (.int d5), .val (.int d6), .val (.int d7), .val (.int d8), .val (.int d9), .val (.int f10), .val (.int f11), .val (.int f12), .val (.ref b290), .val .null, .unset, .unset, .unset, .unset, .unset] [])) tt → SP pg ev below (s₁.setTop (entryFrame mi #[(.int x0), (.int x1), (.int x2), (.int x3)] maxLocals)) tt := fun tt kk => pre313 _ (by
        show SP pg ev below (T307.setTop (mkF mi 131 #[.val (.int x0), .val (.int x1), .val (.int x2), .val (.int x3), .val (.int d4), .val (.int d5), .val (.int d6), .val (.int d7), .val (.int d8), .val (.int d9), .val (.int f10), .val (.int f11), .val (.int f12), .val (.ref b290), .unset, .unset, .unset, .unset, .unset, .unset] [(.int f11)])) _
        refine XS.ifYes X307.here hx rfl (pc0 := 131) (pc' := 157) rfl (hb hby at_131) rfl ((if0 _ _).trans (teq hc312).1) (by decide) (by decide) ?_
        refine XS.aconstNull X307.here hx rfl (hb hby at_157) ?_
        refine XS.astore X307.here hx rfl (hb hby at_158) rfl rfl (l' := #[.val (.int x0), .val (.int x1), .val (.int x2), .val (.int x3), .val (.int d4), .val (.int d5), .val (.int d6), .val (.int d7), .val (.int d8), .val (.int d9), .val (.int f10), .val (.int f11), .val (.int f12), .val (.ref b290), .val .null, .unset, .unset, .unset, .unset, .unset]) rfl ?_
        exact kk)
      have O315 : Old Z n0 T307.heap := (O303.keep Kq307 (allS g_b290 all0))
      obtain ⟨T316, h316, L316, va_316, X316, e316, N316, Kq316, r316_0, st316⟩ := sw_app hw d8 f12 zc (.val (.int x0)) (.val (.int x1)) (.val (.int x2)) (.val (.int x3)) (.val (.int d4)) (.val (.int d5)) (.val (.int d6)) (.val (.int d7)) (.val (.int d9)) (.val (.int f10)) (.val (.int f11)) (.val (.ref b290)) (.val .null) (.unset) (.unset) (.unset) (.unset) T307.heap n0 (X307.more (by decide) (by decide)) hx hby hml hZ hown rfl N307 O315 D0_ (z_d8 : ¬ (d8 < (0 : Int32))) (y_d8 : ¬ ((255 : Int32) < d8)) (hzc : ¬ (zc = (0 : Int32)))
      have c317 := CHr.keep Kq316 sf0 C310.1
      have C318 := CHr.trans C310 c317
      have O319 : Old Z n0 h316 := (O315.keep Kq316 all0)
      obtain ⟨v320, _, ⟨T320, L320, k320, n320⟩, -, X320, ⟨Lc320, hQ320, l320, y320, z320⟩, st320⟩ := Jvm.LawKit.callS X316 hx (y := mn29) hown (mvT hZ (wd34 hw)) (mvT hZ (wd35 hw)) (mvT hZ (wd6 hw)) (mvT hZ (wd36 hw)) (by decide) (backOf (W := 0) (rm_vof la Z a0 hw [] d9 zc h316 n0 O319 D0_ (y_d9 : ¬ ((255 : Int32) < d9)) (z_d9 : ¬ (d9 < (0 : Int32))) (hzc : ¬ (zc = (0 : Int32)))) hZ (wd36 hw) (wd6 hw) (by decide) (by decide)) (g := (mkF mi 178 #[.val (.int x0), .val (.int x1), .val (.int x2), .val (.int x3), .val (.int d4), .val (.int d5), .val (.int d6), .val (.int d7), .val (.int d8), .val (.int d9), .val (.int f10), .val (.int f11), .val (.int f12), .val (.ref b290), .val .null, .val va_316, .unset, .unset, .unset, .unset] [(.int d9)])) rfl (by rw [hml]; rfl) (argsL := [(.int d9)]) (rest := []) (lenOf pd_29 rfl) rfl (Nat.le_of_ble_eq_true rfl) (hb hby at_178) (fun _ _ => ⟨rfl, e316, (by decide : 8 + 2 ≤ _), (by decide : 45 + 5 ≤ _)⟩)
      dsimp only [Pt.U, Pt.locs, Pt.cells, Pt.slots] at X320 l320 y320 z320 st320 hQ320
      subst l320 y320 z320
      obtain ⟨x_320, t_320, rfl, Nq320, Kq320, fr_x_320, fr_t_320, r320_0⟩ := hQ320
      have N320 := Fr.app N316 Nq320
      have c321 := CHr.keep Kq320 sf0 C318.1
      have C322 := CHr.trans C318 c321
      obtain ⟨T323, h323, X323, e323, E323, A323, D323, -, st323⟩ := newO X320 hx hZ hown (wd48 hw) (wd49 hw) (wd50 hw) rfl (g := (mkF mi 183 #[.val (.int x0), .val (.int x1), .val (.int x2), .val (.int x3), .val (.int d4), .val (.int d5), .val (.int d6), .val (.int d7), .val (.int d8), .val (.int d9), .val (.int f10), .val (.int f11), .val (.int f12), .val (.ref b290), .val .null, .val va_316, .val (.ref x_320), .unset, .unset, .unset] [])) rfl (hb hby at_183) (by decide) (by decide)
      obtain ⟨b323, q323⟩ : ∃ z, z = T320.heap.size := ⟨_, rfl⟩
      rw [← q323] at A323 D323 st323
      have c324 := CHr.ext E323 C322.1
      have C325 := CHr.trans C322 c324
      have f326 : Fld Z h323 b323 c0_ "appName" c4_ .null := D323 (Or.inr (wd118 hw)) (ty := (.object c1_)) (by decide)
      have f327 : Fld Z h323 b323 c0_ c19_ c4_ .null := D323 (Or.inr (wd120 hw)) (ty := (.object c1_)) (by decide)
      have f328 : Fld Z h323 b323 c0_ "beanName" c4_ .null := D323 (Or.inr (wd122 hw)) (ty := (.object c1_)) (by decide)
      have f329 : Fld Z h323 b323 c0_ "viewName" c4_ .null := D323 (Or.inr (wd124 hw)) (ty := (.object c1_)) (by decide)
      have O330 : Old Z n0 h323 := ((O319.keep Kq320 all0).ext E323)
      have f331 : OStr Z h323 va_316 ([d8] : List Int32) := ((r316_0.keep Kq320 ).ext E323)
      have f332 : LStr Z h323 x_320 t_320 ([d9] : List Int32) := (r320_0.ext E323)
      have f333 : LStr Z h323 b290 t_307 ([d4] : List Int32) := (((r307_0.keep Kq316 nin0 nin0).keep Kq320 nin0 nin0).ext E323)
      have O334 : Old Z n0 T320.heap := (O319.keep Kq320 all0)
      have g_b323 : n0 ≤ b323 := Nat.le_trans (Nat.le_trans (Nat.le_of_eq O334.1.symm) O334.2.1) (Nat.le_of_eq q323.symm)
      have ne_x_320_b323 : x_320 ≠ b323 := Nat.ne_of_lt (Nat.lt_of_lt_of_le r320_0.lt (Nat.le_trans (Nat.le_refl _) (Nat.le_of_eq q323.symm)))
      have ne_t_320_b323 : t_320 ≠ b323 := Nat.ne_of_lt (Nat.lt_of_lt_of_le r320_0.ltt (Nat.le_trans (Nat.le_refl _) (Nat.le_of_eq q323.symm)))
      have ne_b290_b323 : b290 ≠ b323 := Nat.ne_of_lt (Nat.lt_of_lt_of_le A290.lt (Nat.le_trans (Nat.le_trans (Nat.le_trans (Nat.le_trans (Nat.le_trans E295.1 Kq299.1) Kq307.1) Kq316.1) Kq320.1) (Nat.le_of_eq q323.symm)))
      have ne_t_307_b323 : t_307 ≠ b323 := Nat.ne_of_lt (Nat.lt_of_lt_of_le r307_0.ltt (Nat.le_trans (Nat.le_trans Kq316.1 Kq320.1) (Nat.le_of_eq q323.symm)))
      obtain ⟨v335, _, ⟨T335, L335, k335, n335⟩, -, X335, s335, gr335, ⟨Lc335, hQ335, l335, y335, z335, c335⟩, st335⟩ := X323.specialBackS hx (y := mn41) rfl hown (mvT hZ (wd51 hw)) (mvT hZ (wd52 hw)) (mvT hZ (wd53 hw)) (by decide) (backOfSH (W := 1) (rm_gin0 la Z a0 hw [] b323 va_316 ([d8] : List Int32) x_320 t_320 ([d9] : List Int32) b290 t_307 ([d4] : List Int32) zc h323 n0 O330 A323 f326 f327 f328 f329 f331 f332 f333 D0_ g_b323 ne_x_320_b323 ne_t_320_b323 ne_b290_b323 ne_t_307_b323 (OStr.isRef f331 : va_316.isRef = true) (Nat.succ_ne_zero _ : ([d8] : List Int32).length ≠ 0) (own_a1 s47_d8 : ∀ c ∈ ([d8] : List Int32), ¬ ((c.toInt8.toInt32) = (47 : Int32))) (own_a1 s33_d8 : ∀ c ∈ ([d8] : List Int32), ¬ ((c.toInt8.toInt32) = (33 : Int32))) (Nat.succ_ne_zero _ : ([d9] : List Int32).length ≠ 0) (own_a1 s47_d9 : ∀ c ∈ ([d9] : List Int32), ¬ ((c.toInt8.toInt32) = (47 : Int32))) (own_a1 s33_d9 : ∀ c ∈ ([d9] : List Int32), ¬ ((c.toInt8.toInt32) = (33 : Int32))) (Nat.succ_ne_zero _ : ([d4] : List Int32).length ≠ 0) (own_a1 s47_d4 : ∀ c ∈ ([d4] : List Int32), ¬ ((c.toInt8.toInt32) = (47 : Int32))) (own_a1 s33_d4 : ∀ c ∈ ([d4] : List Int32), ¬ ((c.toInt8.toInt32) = (33 : Int32))) (hzc : ¬ (zc = (0 : Int32)))) hZ (wd53 hw) (wd50 hw) (by decide) (by decide) hEL C325.1) (g := (mkF mi 195 #[.val (.int x0), .val (.int x1), .val (.int x2), .val (.int x3), .val (.int d4), .val (.int d5), .val (.int d6), .val (.int d7), .val (.int d8), .val (.int d9), .val (.int f10), .val (.int f11), .val (.int f12), .val (.ref b290), .val .null, .val va_316, .val (.ref x_320), .unset, .unset, .unset] [.null, (.ref b290), (.ref x_320), va_316, (.ref b323), (.ref b323)])) rfl (by rw [hml]; rfl) (Steps.refl _) (a := b323) (argsL := [va_316, (.ref x_320), (.ref b290), .null]) (rest := [(.ref b323)]) (lenOf pd_27 rfl) rfl (Nat.le_of_ble_eq_true rfl) (hb hby at_195) (fun _ _ => ⟨rfl, e323, (by decide : 11 + 20 ≤ _), (by decide : 54 + 308 ≤ _)⟩)
      dsimp only [Pt.U, Pt.locs, Pt.cells, Pt.slots] at X335 s335 gr335 l335 y335 z335 c335 st335 hQ335
      subst l335 y335 z335
      obtain ⟨X335, hS, hZ, hown⟩ := rebS hS (show _ ≤ T323.heap.size by rw [e323]; exact (Nat.le_trans hk (Nat.le_trans (Nat.le_trans (Nat.le_trans (Nat.le_trans (Nat.le_trans (Nat.le_trans E290.1 E295.1) Kq299.1) Kq307.1) Kq316.1) Kq320.1) E323.1))) X335 s335 gr335 hZ hown
      have hk : T335.heap.size ≤ T335.heap.size := Nat.le_refl _
      obtain ⟨rfl, Nq335, Kq335, r335_0, r335_1, r335_2, r335_3⟩ := hQ335
      have N335 := Fr.app N320 Nq335
      have C336 := CHr.trans C325 c335
      have O337 : Old Z n0 T335.heap := (O330.keep Kq335 (allS g_b323 all0))
      have f338 : LStr Z T335.heap b290 t_307 ([d4] : List Int32) := (f333.keep Kq335 (ninS ne_b290_b323 nin0) (ninS ne_t_307_b323 nin0))
      obtain ⟨cq339, kq339, q339a, q339b, q339c⟩ := isOf hZ rfl r335_0
      obtain ⟨v339, _, ⟨T339, L339, k339, n339⟩, -, X339, s339, gr339, ⟨Lc339, hQ339, l339, y339, z339, c339⟩, st339⟩ := X335.virtualBackS hx (y := mn43) (z := mn43) hown (mvT hZ (wd125 hw)) (mvT hZ (wd126 hw)) (notFace_of_selects (args := #[]) (mvT hZ (wd128 hw))) (mvT hZ (wd128 hw)) (mvT hZ (wd127 hw)) (by decide) (backOfSH (W := 0) (rm_imn la Z a0 hw [] b323 b290 t_307 ([d4] : List Int32) zc T335.heap n0 O337 r335_0 r335_2 f338 r335_3 D0_ (Nat.le_of_ble_eq_true rfl : ([d4] : List Int32).length ≤ 3) (hzc : ¬ (zc = (0 : Int32)))) hZ (wd129 hw) (wd50 hw) (by decide) (by decide) hEL C336.1) q339a q339c (g := (mkF mi 202 #[.val (.int x0), .val (.int x1), .val (.int x2), .val (.int x3), .val (.int d4), .val (.int d5), .val (.int d6), .val (.int d7), .val (.int d8), .val (.int d9), .val (.int f10), .val (.int f11), .val (.int f12), .val (.ref b290), .val .null, .val va_316, .val (.ref x_320), .val (.ref b323), .unset, .unset] [(.ref b323)])) rfl (by rw [hml]; rfl) (Steps.refl _) (argsL := []) (rest := []) (lenOf pd_22 rfl) rfl (Nat.le_of_ble_eq_true rfl) (hb hby at_202) (fun _ _ => ⟨rfl, rfl, (by decide : 31 + 8 ≤ _), (by decide : 362 + 200 ≤ _)⟩)
      dsimp only [Pt.U, Pt.locs, Pt.cells, Pt.slots] at X339 s339 gr339 l339 y339 z339 c339 st339 hQ339
      subst l339 y339 z339
      obtain ⟨X339, hS, hZ, hown⟩ := rebS hS (show _ ≤ T335.heap.size from hk) X339 s339 gr339 hZ hown
      have hk : T339.heap.size ≤ T339.heap.size := Nat.le_refl _
      obtain ⟨x_339, t_339, rfl, Nq339, Kq339, fr_x_339, fr_t_339, r339_0⟩ := hQ339
      have N339 := Fr.app N335 Nq339
      have C340 := CHr.trans C336 c339
      have pre341 : ∀ tt, SP pg ev below (T339.setTop (mkF mi 316 #[.val (.int x0), .val (.int x1), .val (.int x2), .val (.int x3), .val (.int d4), .val (.int d5), .val (.int d6), .val (.int d7), .val (.int d8), .val (.int d9), .val (.int f10), .val (.int f11), .val (.int f12), .val (.ref b290), .val .null, .val va_316, .val (.ref x_320), .val (.ref b323), .val (.ref x_339), .unset] [])) tt → SP pg ev below (s₁.setTop (entryFrame mi #[(.int x0), (.int x1), (.int x2), (.int x3)] maxLocals)) tt := fun tt kk => pre314 _ (by
        show SP pg ev below (T307.setTop (mkF mi 160 #[.val (.int x0), .val (.int x1), .val (.int x2), .val (.int x3), .val (.int d4), .val (.int d5), .val (.int d6), .val (.int d7), .val (.int d8), .val (.int d9), .val (.int f10), .val (.int f11), .val (.int f12), .val (.ref b290), .val .null, .unset, .unset, .unset, .unset, .unset] [])) _
        refine st316 _ ?_
        refine XS.iload X316.here hx rfl (hb hby at_176) rfl ?_
        refine st320 _ ?_
        refine XS.astore X320.here hx rfl (hb hby at_181) rfl rfl (l' := #[.val (.int x0), .val (.int x1), .val (.int x2), .val (.int x3), .val (.int d4), .val (.int d5), .val (.int d6), .val (.int d7), .val (.int d8), .val (.int d9), .val (.int f10), .val (.int f11), .val (.int f12), .val (.ref b290), .val .null, .val va_316, .val (.ref x_320), .unset, .unset, .unset]) rfl ?_
        refine st323 _ ?_
        refine XS.dup X323.here hx rfl (hb hby at_186) rfl rfl ?_
        refine XS.aload X323.here hx rfl (hb hby at_187) rfl (OStr.isRef r316_0) ?_
        refine XS.aload X323.here hx rfl (hb hby at_189) rfl rfl ?_
        refine XS.aload X323.here hx rfl (hb hby at_191) rfl rfl ?_
        refine XS.aload X323.here hx rfl (hb hby at_193) rfl rfl ?_
        refine st335.trans ?_
        refine XS.astore X335.here hx rfl (hb hby at_198) rfl rfl (l' := #[.val (.int x0), .val (.int x1), .val (.int x2), .val (.int x3), .val (.int d4), .val (.int d5), .val (.int d6), .val (.int d7), .val (.int d8), .val (.int d9), .val (.int f10), .val (.int f11), .val (.int f12), .val (.ref b290), .val .null, .val va_316, .val (.ref x_320), .val (.ref b323), .unset, .unset]) rfl ?_
        refine XS.aload X335.here hx rfl (hb hby at_200) rfl rfl ?_
        refine st339.trans ?_
        refine XS.astore X339.here hx rfl (hb hby at_205) rfl rfl (l' := #[.val (.int x0), .val (.int x1), .val (.int x2), .val (.int x3), .val (.int d4), .val (.int d5), .val (.int d6), .val (.int d7), .val (.int d8), .val (.int d9), .val (.int f10), .val (.int f11), .val (.int f12), .val (.ref b290), .val .null, .val va_316, .val (.ref x_320), .val (.ref b323), .val (.ref x_339), .unset]) rfl ?_
        refine XS.iload X339.here hx rfl (hb hby at_207) rfl ?_
        refine XS.ifNo X339.here hx rfl (hb hby at_209) rfl ((if0 _ _).trans (feq hc131).1) ?_
        refine XS.iload X339.here hx rfl (hb hby at_212) rfl ?_
        refine XS.ifYes X339.here hx rfl (pc0 := 214) (pc' := 316) rfl (hb hby at_214) rfl ((if0 _ _).trans (teq hc312).1) (by decide) (by decide) ?_
        exact kk)
      have O342 : Old Z n0 T339.heap := (O337.keep Kq339 all0)
      obtain ⟨T343, h343, L343, b_343, kb_343, X343, e343, N343, Kq343, fr_b_343, r343_0, st343⟩ := sw_fill13 hw d4 (.val (.int x0)) (.val (.int x1)) (.val (.int x2)) (.val (.int x3)) (.val (.int d5)) (.val (.int d6)) (.val (.int d7)) (.val (.int d8)) (.val (.int d9)) (.val (.int f10)) (.val (.int f11)) (.val (.int f12)) (.val (.ref b290)) (.val .null) (.val va_316) (.val (.ref x_320)) (.val (.ref b323)) (.val (.ref x_339)) T339.heap n0 (X339.more (by decide) (by decide)) hx hby hml hZ hown rfl N339 O342 (zy_d4 : ¬ (d4 < (0 : Int32)) ∧ ¬ ((255 : Int32) < d4))
      have c344 := CHr.keep Kq343 sf0 C340.1
      have C345 := CHr.trans C340 c344
      obtain ⟨T346, h346, X346, e346, E346, A346, D346, -, st346⟩ := newO X343 hx hZ hown (wd4 hw) (wd5 hw) (wd6 hw) e343 (g := (mkF mi 593 #[.val (.int x0), .val (.int x1), .val (.int x2), .val (.int x3), .val (.int d4), .val (.int d5), .val (.int d6), .val (.int d7), .val (.int d8), .val (.int d9), .val (.int f10), .val (.int f11), .val (.int f12), .val (.ref b290), .val .null, .val va_316, .val (.ref x_320), .val (.ref b323), .val (.ref x_339), .val (.ref b_343)] [(.ref x_339)])) rfl (hb hby at_593) (by decide) (by decide)
      obtain ⟨b346, q346⟩ : ∃ z, z = h343.size := ⟨_, rfl⟩
      rw [← q346] at A346 D346 st346
      have c347 := CHr.ext E346 C345.1
      have C348 := CHr.trans C345 c347
      have f349 : Fld Z h346 b346 c1_ "coder" "B" (.int 0) := D346 (Or.inr (wd31 hw)) (ty := .byte) (by decide)
      have f350 : Fld Z h346 b346 c1_ "value" "[B" .null := D346 (Or.inr (wd33 hw)) (ty := (.array .byte)) (by decide)
      have O351 : Old Z n0 h346 := ((O342.keep Kq343 all0).ext E346)
      have f352 : Arv Z h346 b_343 kb_343 .char (13 : Int32) [(.int 106), (.int 97), (.int 118), (.int 97), (.int 58), (.int 109), (.int 111), (.int 100), (.int 117), (.int 108), (.int 101), (.int 47), (.int d4)] (.int 0) := (r343_0.ext E346)
      have O353 : Old Z n0 h343 := (O342.keep Kq343 all0)
      have g_b346 : n0 ≤ b346 := Nat.le_trans (Nat.le_trans (Nat.le_of_eq O353.1.symm) O353.2.1) (Nat.le_of_eq q346.symm)
      obtain ⟨v354, _, ⟨T354, L354, k354, n354⟩, -, X354, ⟨Lc354, hQ354, l354, y354, z354⟩, st354⟩ := X346.specialBack hx (y := mn44) rfl hown (mvT hZ (wd8 hw)) (mvT hZ (wd9 hw)) (mvT hZ (wd10 hw)) (by decide) (own_nsc (W := 2) hZ hw (wd5 hw) b346 b_343 kb_343 ([(106 : Int32), (97 : Int32), (118 : Int32), (97 : Int32), (58 : Int32), (109 : Int32), (111 : Int32), (100 : Int32), (117 : Int32), (108 : Int32), (101 : Int32), (47 : Int32), d4] : List Int32) zc h346 n0 O351 A346 f350 f349 f352 D0_ g_b346 (Nat.le_of_ble_eq_true rfl : 0 < ([(106 : Int32), (97 : Int32), (118 : Int32), (97 : Int32), (58 : Int32), (109 : Int32), (111 : Int32), (100 : Int32), (117 : Int32), (108 : Int32), (101 : Int32), (47 : Int32), d4] : List Int32).length) (Nat.le_of_ble_eq_true rfl : ([(106 : Int32), (97 : Int32), (118 : Int32), (97 : Int32), (58 : Int32), (109 : Int32), (111 : Int32), (100 : Int32), (117 : Int32), (108 : Int32), (101 : Int32), (47 : Int32), d4] : List Int32).length ≤ 4000) ((own_bdC (by decide) (own_bdC (by decide) (own_bdC (by decide) (own_bdC (by decide) (own_bdC (by decide) (own_bdC (by decide) (own_bdC (by decide) (own_bdC (by decide) (own_bdC (by decide) (own_bdC (by decide) (own_bdC (by decide) (own_bdC (by decide) (own_bdC zy_d4 own_bd0))))))))))))) : ∀ c ∈ ([(106 : Int32), (97 : Int32), (118 : Int32), (97 : Int32), (58 : Int32), (109 : Int32), (111 : Int32), (100 : Int32), (117 : Int32), (108 : Int32), (101 : Int32), (47 : Int32), d4] : List Int32), ¬ c < 0 ∧ ¬ (255 : Int32) < c) (hzc : ¬ (zc = (0 : Int32))) 13 rfl (by decide) (by decide)) (g := (mkF mi 599 #[.val (.int x0), .val (.int x1), .val (.int x2), .val (.int x3), .val (.int d4), .val (.int d5), .val (.int d6), .val (.int d7), .val (.int d8), .val (.int d9), .val (.int f10), .val (.int f11), .val (.int f12), .val (.ref b290), .val .null, .val va_316, .val (.ref x_320), .val (.ref b323), .val (.ref x_339), .val (.ref b_343)] [(.ref b_343), (.ref b346), (.ref b346), (.ref x_339)])) rfl (by rw [hml]; rfl) (Steps.refl _) (a := b346) (argsL := [(.ref b_343)]) (rest := [(.ref b346), (.ref x_339)]) (lenOf pd_31 rfl) rfl (Nat.le_of_ble_eq_true rfl) (hb hby at_599) (fun _ _ => ⟨rfl, e346, (by decide : 72 + 1 ≤ _), (by decide : 10017 + 13 ≤ _)⟩)
      dsimp only [Pt.U, Pt.locs, Pt.cells, Pt.slots] at X354 l354 y354 z354 st354 hQ354
      subst l354 y354 z354
      obtain ⟨t_354, rfl, Nq354, Kq354, fr_t_354, r354_0⟩ := hQ354
      have N354 := Fr.app N343 Nq354
      have c355 := CHr.keep Kq354 (sfS (Safe.ext E346 C345.1 (Safe.new (Nat.le_of_eq q346.symm))) sf0) C348.1
      have C356 := CHr.trans C348 c355
      have sf357 : Safe Z ELs _ T354.heap t_354 := (Safe.keep Kq354 (sfS (Safe.ext E346 C345.1 (Safe.new (Nat.le_of_eq q346.symm))) sf0) C348.1 (Safe.new fr_t_354))
      have heq : ∀ d ∈ StrChars.Road.wordsEq, d.before a0 Z = true := fun d hd => hw d ((by decide +kernel : ∀ d ∈ StrChars.Road.wordsEq, d ∈ tables_1) d hd)
      have ne_x_339_b346 : x_339 ≠ b346 := Nat.ne_of_lt (Nat.lt_of_lt_of_le r339_0.lt (Nat.le_trans Kq343.1 (Nat.le_of_eq q346.symm)))
      have ne_t_339_b346 : t_339 ≠ b346 := Nat.ne_of_lt (Nat.lt_of_lt_of_le r339_0.ltt (Nat.le_trans Kq343.1 (Nat.le_of_eq q346.symm)))
      have f358 : LStr Z T354.heap x_339 t_339 (((([] : List Int32) ++ ([(106 : Int32), (97 : Int32), (118 : Int32), (97 : Int32), (58 : Int32), (109 : Int32), (111 : Int32), (100 : Int32), (117 : Int32), (108 : Int32), (101 : Int32), (47 : Int32)] : List Int32)) ++ ([d4] : List Int32)) ++ ([] : List Int32)) := (((r339_0.keep Kq343 nin0 nin0).ext E346).keep Kq354 (ninS ne_x_339_b346 nin0) (ninS ne_t_339_b346 nin0))
      obtain ⟨sE359, sV359, sC359, ⟨kb359, sK359⟩, sb359, sl359⟩ := id f358
      obtain ⟨sE360, sV360, sC360, ⟨kb360, sK360⟩, sb360, sl360⟩ := id r354_0
      have O361 : Old Z n0 T354.heap := (O351.keep Kq354 (allS g_b346 all0))
      obtain ⟨cq362, kq362, q362a, q362b, q362c⟩ := isOf hZ rfl (f358).1
      obtain ⟨v362, _, ⟨T362, L362, k362, n362⟩, -, X362, ⟨Lc362, ⟨hv362, hL362, hh362⟩, l362, y362, z362⟩, st362⟩ := X354.virtualBack hx (y := mn45) (z := mn45) hown (mvT hZ (wd241 hw)) (mvT hZ (wd242 hw)) (notFace_of_selects (args := #[]) (mvT hZ (wd244 hw))) (mvT hZ (wd244 hw)) (mvT hZ (wd243 hw)) (by decide) (StrChars.Road.eqW (W := 0) hZ heq (kI := 4) (wd5 hw) sE359 sV359 sC359 sK359 (own_cod sb359) (own_up sb359) sl359 sE360 sV360 sC360 sK360 (own_cod sb360) (own_up sb360) sl360 (D0_.ext O361.2) hzc (by decide) (by decide)) q362a q362c (g := (mkF mi 602 #[.val (.int x0), .val (.int x1), .val (.int x2), .val (.int x3), .val (.int d4), .val (.int d5), .val (.int d6), .val (.int d7), .val (.int d8), .val (.int d9), .val (.int f10), .val (.int f11), .val (.int f12), .val (.ref b290), .val .null, .val va_316, .val (.ref x_320), .val (.ref b323), .val (.ref x_339), .val (.ref b_343)] [(.ref b346), (.ref x_339)])) rfl (by rw [hml]; rfl) (Steps.refl _) (argsL := [(.ref b346)]) (rest := []) (lenOf pd_32 rfl) rfl (Nat.le_of_ble_eq_true rfl) (hb hby at_602) (fun _ _ => ⟨rfl, rfl, (by decide : 73 + 0 ≤ _), (by decide : 10030 + 0 ≤ _)⟩)
      dsimp only [Pt.U, Pt.locs, Pt.cells, Pt.slots] at X362 l362 y362 z362 st362 hv362 hL362 hh362
      have hw362 : v362 = some (.int (if (((([] : List Int32) ++ ([(106 : Int32), (97 : Int32), (118 : Int32), (97 : Int32), (58 : Int32), (109 : Int32), (111 : Int32), (100 : Int32), (117 : Int32), (108 : Int32), (101 : Int32), (47 : Int32)] : List Int32)) ++ ([d4] : List Int32)) ++ ([] : List Int32)) = ([(106 : Int32), (97 : Int32), (118 : Int32), (97 : Int32), (58 : Int32), (109 : Int32), (111 : Int32), (100 : Int32), (117 : Int32), (108 : Int32), (101 : Int32), (47 : Int32), d4] : List Int32) then (1 : Int32) else 0)) := by rcases hv362 with ⟨q1, q2⟩ | ⟨q1, q2⟩; (rw [q1, if_pos q2]); (rw [q1, if_neg q2])
      clear hv362
      subst hw362 hL362
      subst l362 y362 z362
      have N362 := Fr.app N354 (Fr.nil n0)
      have pre363 : ∀ tt, SP pg ev below (T362.setTop (mkF mi 605 #[.val (.int x0), .val (.int x1), .val (.int x2), .val (.int x3), .val (.int d4), .val (.int d5), .val (.int d6), .val (.int d7), .val (.int d8), .val (.int d9), .val (.int f10), .val (.int f11), .val (.int f12), .val (.ref b290), .val .null, .val va_316, .val (.ref x_320), .val (.ref b323), .val (.ref x_339), .val (.ref b_343)] [(.int (if (((([] : List Int32) ++ ([(106 : Int32), (97 : Int32), (118 : Int32), (97 : Int32), (58 : Int32), (109 : Int32), (111 : Int32), (100 : Int32), (117 : Int32), (108 : Int32), (101 : Int32), (47 : Int32)] : List Int32)) ++ ([d4] : List Int32)) ++ ([] : List Int32)) = ([(106 : Int32), (97 : Int32), (118 : Int32), (97 : Int32), (58 : Int32), (109 : Int32), (111 : Int32), (100 : Int32), (117 : Int32), (108 : Int32), (101 : Int32), (47 : Int32), d4] : List Int32) then (1 : Int32) else 0))])) tt → SP pg ev below (s₁.setTop (entryFrame mi #[(.int x0), (.int x1), (.int x2), (.int x3)] maxLocals)) tt := fun tt kk => pre341 _ (by
        show SP pg ev below (T339.setTop (mkF mi 316 #[.val (.int x0), .val (.int x1), .val (.int x2), .val (.int x3), .val (.int d4), .val (.int d5), .val (.int d6), .val (.int d7), .val (.int d8), .val (.int d9), .val (.int f10), .val (.int f11), .val (.int f12), .val (.ref b290), .val .null, .val va_316, .val (.ref x_320), .val (.ref b323), .val (.ref x_339), .unset] [])) _
        refine st343 _ ?_
        refine XS.aload X343.here hx rfl (hb hby at_591) rfl rfl ?_
        refine st346 _ ?_
        refine XS.dup X346.here hx rfl (hb hby at_596) rfl rfl ?_
        refine XS.aload X346.here hx rfl (hb hby at_597) rfl rfl ?_
        refine st354.trans ?_
        refine st362.trans ?_
        exact kk)
      have pre364 : ∀ tt, SP pg ev below (T362.setTop (mkF mi 605 #[.val (.int x0), .val (.int x1), .val (.int x2), .val (.int x3), .val (.int d4), .val (.int d5), .val (.int d6), .val (.int d7), .val (.int d8), .val (.int d9), .val (.int f10), .val (.int f11), .val (.int f12), .val (.ref b290), .val .null, .val va_316, .val (.ref x_320), .val (.ref b323), .val (.ref x_339), .val (.ref b_343)] [(.int 1)])) tt → SP pg ev below (s₁.setTop (entryFrame mi #[(.int x0), (.int x1), (.int x2), (.int x3)] maxLocals)) tt := fun tt kk => pre363 tt (by rw [if_pos (show (((([] : List Int32) ++ ([(106 : Int32), (97 : Int32), (118 : Int32), (97 : Int32), (58 : Int32), (109 : Int32), (111 : Int32), (100 : Int32), (117 : Int32), (108 : Int32), (101 : Int32), (47 : Int32)] : List Int32)) ++ ([d4] : List Int32)) ++ ([] : List Int32)) = ([(106 : Int32), (97 : Int32), (118 : Int32), (97 : Int32), (58 : Int32), (109 : Int32), (111 : Int32), (100 : Int32), (117 : Int32), (108 : Int32), (101 : Int32), (47 : Int32), d4] : List Int32) from rfl)]; exact kk)
      obtain ⟨fs, hr, hrun, hended, hWe⟩ := X362.leaveW hS (show _ ≤ T362.heap.size by rw [hh362]; exact (Nat.le_trans hk (Nat.le_trans (Nat.le_trans Kq343.1 E346.1) Kq354.1))) (v := some (.int 1)) (fun hq => by rw [Bd.returns] at hq; cases hq)
      refine ⟨_, _, pre364 _ ?_, hrun, hended, _, _, rfl, ?_, ?_, hWe.1, hWe.2.1, hWe.2.2.1, hWe.2.2.2.mono (by decide) (by decide)⟩
      · show SP pg ev below (T362.setTop (mkF mi 605 #[.val (.int x0), .val (.int x1), .val (.int x2), .val (.int x3), .val (.int d4), .val (.int d5), .val (.int d6), .val (.int d7), .val (.int d8), .val (.int d9), .val (.int f10), .val (.int f11), .val (.int f12), .val (.ref b290), .val .null, .val va_316, .val (.ref x_320), .val (.ref b323), .val (.ref x_339), .val (.ref b_343)] [(.int 1)])) _
        exact retN X362 hx (t := .boolean) Bd.returns (by simp) (hb hby at_605) hr
      · show Q_law Z x0 x1 x2 x3 zc hE n0 _ T362.heap _
        rw [hh362]
        exact ⟨rfl, N362⟩
      · show CHr Z ELs sb.vm sb.heap T362.vm T362.heap
        rw [hh, hh362]
        exact CHr.trans C356 (CHv.at X362 hZ hEL C356.1)
    · obtain ⟨T365, h365, X365, e365, E365, A365, D365, -, st365⟩ := newO X307 hx hZ hown (wd4 hw) (wd5 hw) (wd6 hw) rfl (g := (mkF mi 134 #[.val (.int x0), .val (.int x1), .val (.int x2), .val (.int x3), .val (.int d4), .val (.int d5), .val (.int d6), .val (.int d7), .val (.int d8), .val (.int d9), .val (.int f10), .val (.int f11), .val (.int f12), .val (.ref b290), .unset, .unset, .unset, .unset, .unset, .unset] [])) rfl (hb hby at_134) (by decide) (by decide)
      obtain ⟨b365, q365⟩ : ∃ z, z = T307.heap.size := ⟨_, rfl⟩
      rw [← q365] at A365 D365 st365
      have c366 := CHr.ext E365 C310.1
      have C367 := CHr.trans C310 c366
      have f368 : Fld Z h365 b365 c1_ "coder" "B" (.int 0) := D365 (Or.inr (wd31 hw)) (ty := .byte) (by decide)
      have f369 : Fld Z h365 b365 c1_ "value" "[B" .null := D365 (Or.inr (wd33 hw)) (ty := (.array .byte)) (by decide)
      obtain ⟨T370, h370, k370, X370, e370, E370, A370, st370⟩ := newP (aty := .char) X365 hx hZ (wd7 hw) e365 (g := (mkF mi 139 #[.val (.int x0), .val (.int x1), .val (.int x2), .val (.int x3), .val (.int d4), .val (.int d5), .val (.int d6), .val (.int d7), .val (.int d8), .val (.int d9), .val (.int f10), .val (.int f11), .val (.int f12), .val (.ref b290), .unset, .unset, .unset, .unset, .unset, .unset] [(.int 2), (.ref b365), (.ref b365)])) rfl (hb hby at_139) rfl (by decide) (cap := 2) (by decide) (by decide) (by decide) (by decide)
      obtain ⟨b370, q370⟩ : ∃ z, z = h365.size := ⟨_, rfl⟩
      rw [← q370] at A370 st370
      have c371 := CHr.ext E370 C367.1
      have C372 := CHr.trans C367 c371
      have f373 : Arv Z h370 b370 k370 .char (2 : Int32) [(.int 0), (.int 0)] (.int 0) := (Arv.new A370 (by decide)).pad (pad_rep [] (.int 0) 2)
      have O375 : Old Z n0 h365 := ((O303.keep Kq307 (allS g_b290 all0)).ext E365)
      have g_b370 : n0 ≤ b370 := Nat.le_trans (Nat.le_trans (Nat.le_of_eq O375.1.symm) O375.2.1) (Nat.le_of_eq q370.symm)
      obtain ⟨T374, h374, L374, X374, e374, N374, Kq374, f374, st374⟩ := own_sc X370 hx hZ e370 f373 0 (c := d6) (j := (0 : Int32)) (own_nar_c zy_d6) rfl (by decide) (Nat.le_of_ble_eq_true rfl) N307 g_b370 (g := (mkF mi 145 #[.val (.int x0), .val (.int x1), .val (.int x2), .val (.int x3), .val (.int d4), .val (.int d5), .val (.int d6), .val (.int d7), .val (.int d8), .val (.int d9), .val (.int f10), .val (.int f11), .val (.int f12), .val (.ref b290), .unset, .unset, .unset, .unset, .unset, .unset] [(.int d6), (.int 0), (.ref b370), (.ref b370), (.ref b365), (.ref b365)])) rfl rfl (hb hby at_145)
      have c376 := CHr.keep Kq374 (sfS (Safe.arv hZ.alike f373 (by decide)) sf0) C372.1
      have C377 := CHr.trans C372 c376
      obtain ⟨T378, h378, L378, X378, e378, N378, Kq378, f378, st378⟩ := own_sc X374 hx hZ e374 f374 1 (c := d7) (j := (1 : Int32)) (own_nar_c zy_d7) rfl (by decide) (Nat.le_of_ble_eq_true rfl) N374 g_b370 (g := (mkF mi 150 #[.val (.int x0), .val (.int x1), .val (.int x2), .val (.int x3), .val (.int d4), .val (.int d5), .val (.int d6), .val (.int d7), .val (.int d8), .val (.int d9), .val (.int f10), .val (.int f11), .val (.int f12), .val (.ref b290), .unset, .unset, .unset, .unset, .unset, .unset] [(.int d7), (.int 1), (.ref b370), (.ref b370), (.ref b365), (.ref b365)])) rfl rfl (hb hby at_150)
      have c379 := CHr.keep Kq378 (sfS (Safe.arv hZ.alike f374 (by decide)) sf0) C377.1
      have C380 := CHr.trans C377 c379
      have O381 : Old Z n0 h378 := (((O375.ext E370).keep Kq374 (allS g_b370 all0)).keep Kq378 (allS g_b370 all0))
      have f382 : Exa Z h378 b365 c1_ := (((A365.ext E370).keep Kq374).keep Kq378)
      have ne_b365_b370 : b365 ≠ b370 := Nat.ne_of_lt (Nat.lt_of_lt_of_le A365.lt (Nat.le_trans (Nat.le_refl _) (Nat.le_of_eq q370.symm)))
      have f383 : Fld Z h378 b365 c1_ "value" "[B" .null := (((f369.ext E370).keep Kq374 (ninS ne_b365_b370 nin0)).keep Kq378 (ninS ne_b365_b370 nin0))
      have f384 : Fld Z h378 b365 c1_ "coder" "B" (.int 0) := (((f368.ext E370).keep Kq374 (ninS ne_b365_b370 nin0)).keep Kq378 (ninS ne_b365_b370 nin0))
      have O385 : Old Z n0 T307.heap := (O303.keep Kq307 (allS g_b290 all0))
      have g_b365 : n0 ≤ b365 := Nat.le_trans (Nat.le_trans (Nat.le_of_eq O385.1.symm) O385.2.1) (Nat.le_of_eq q365.symm)
      obtain ⟨v386, _, ⟨T386, L386, k386, n386⟩, -, X386, ⟨Lc386, hQ386, l386, y386, z386⟩, st386⟩ := X378.specialBack hx (y := mn44) rfl hown (mvT hZ (wd8 hw)) (mvT hZ (wd9 hw)) (mvT hZ (wd10 hw)) (by decide) (own_nsc (W := 1) hZ hw (wd5 hw) b365 b370 k370 ([d6, d7] : List Int32) zc h378 n0 O381 f382 f383 f384 f378 D0_ g_b365 (Nat.le_of_ble_eq_true rfl : 0 < ([d6, d7] : List Int32).length) (Nat.le_of_ble_eq_true rfl : ([d6, d7] : List Int32).length ≤ 4000) ((own_bdC zy_d6 (own_bdC zy_d7 own_bd0)) : ∀ c ∈ ([d6, d7] : List Int32), ¬ c < 0 ∧ ¬ (255 : Int32) < c) (hzc : ¬ (zc = (0 : Int32))) 2 rfl (by decide) (by decide)) (g := (mkF mi 151 #[.val (.int x0), .val (.int x1), .val (.int x2), .val (.int x3), .val (.int d4), .val (.int d5), .val (.int d6), .val (.int d7), .val (.int d8), .val (.int d9), .val (.int f10), .val (.int f11), .val (.int f12), .val (.ref b290), .unset, .unset, .unset, .unset, .unset, .unset] [(.ref b370), (.ref b365), (.ref b365)])) rfl (by rw [hml]; rfl) (Steps.refl _) (a := b365) (argsL := [(.ref b370)]) (rest := [(.ref b365)]) (lenOf pd_31 rfl) rfl (Nat.le_of_ble_eq_true rfl) (hb hby at_151) (fun _ _ => ⟨rfl, e378, (by decide : 5 + 1 ≤ _), (by decide : 12 + 2 ≤ _)⟩)
      dsimp only [Pt.U, Pt.locs, Pt.cells, Pt.slots] at X386 l386 y386 z386 st386 hQ386
      subst l386 y386 z386
      obtain ⟨t_386, rfl, Nq386, Kq386, fr_t_386, r386_0⟩ := hQ386
      have N386 := Fr.app N378 Nq386
      have sf388 : Safe Z ELs _ h378 b365 := (c379.safe (Nat.lt_of_lt_of_le A365.lt (Nat.le_trans E370.1 Kq374.1)) (c376.safe (Nat.lt_of_lt_of_le A365.lt E370.1) (c371.safe A365.lt (Safe.ext E365 C310.1 (Safe.new (Nat.le_of_eq q365.symm))))))
      have c387 := CHr.keep Kq386 (sfS sf388 sf0) C380.1
      have C389 := CHr.trans C380 c387
      have sf390 : Safe Z ELs _ T386.heap t_386 := (Safe.keep Kq386 (sfS sf388 sf0) C380.1 (Safe.new fr_t_386))
      have pre391 : ∀ tt, SP pg ev below (T386.setTop (mkF mi 160 #[.val (.int x0), .val (.int x1), .val (.int x2), .val (.int x3), .val (.int d4), .val (.int d5), .val (.int d6), .val (.int d7), .val (.int d8), .val (.int d9), .val (.int f10), .val (.int f11), .val (.int f12), .val (.ref b290), .val (.ref b365), .unset, .unset, .unset, .unset, .unset] [])) tt → SP pg ev below (s₁.setTop (entryFrame mi #[(.int x0), (.int x1), (.int x2), (.int x3)] maxLocals)) tt := fun tt kk => pre313 _ (by
        show SP pg ev below (T307.setTop (mkF mi 131 #[.val (.int x0), .val (.int x1), .val (.int x2), .val (.int x3), .val (.int d4), .val (.int d5), .val (.int d6), .val (.int d7), .val (.int d8), .val (.int d9), .val (.int f10), .val (.int f11), .val (.int f12), .val (.ref b290), .unset, .unset, .unset, .unset, .unset, .unset] [(.int f11)])) _
        refine XS.ifNo X307.here hx rfl (hb hby at_131) rfl ((if0 _ _).trans (feq hc312).1) ?_
        refine st365 _ ?_
        refine XS.dup X365.here hx rfl (hb hby at_137) rfl rfl ?_
        refine XS.iconst X365.here hx rfl (hb hby at_138) ?_
        refine st370 _ ?_
        refine XS.dup X370.here hx rfl (hb hby at_141) rfl rfl ?_
        refine XS.iconst X370.here hx rfl (hb hby at_142) ?_
        refine XS.iload X370.here hx rfl (hb hby at_143) rfl ?_
        refine st374 _ ?_
        refine XS.dup X374.here hx rfl (hb hby at_146) rfl rfl ?_
        refine XS.iconst X374.here hx rfl (hb hby at_147) ?_
        refine XS.iload X374.here hx rfl (hb hby at_148) rfl ?_
        refine st378 _ ?_
        refine st386.trans ?_
        refine XS.goto X386.here hx rfl (pc0 := 154) (pc' := 158) rfl (hb hby at_154) (by decide) (by decide) ?_
        refine XS.astore X386.here hx rfl (hb hby at_158) rfl rfl (l' := #[.val (.int x0), .val (.int x1), .val (.int x2), .val (.int x3), .val (.int d4), .val (.int d5), .val (.int d6), .val (.int d7), .val (.int d8), .val (.int d9), .val (.int f10), .val (.int f11), .val (.int f12), .val (.ref b290), .val (.ref b365), .unset, .unset, .unset, .unset, .unset]) rfl ?_
        exact kk)
      have O392 : Old Z n0 T386.heap := (O381.keep Kq386 (allS g_b365 all0))
      obtain ⟨T393, h393, L393, va_393, X393, e393, N393, Kq393, r393_0, st393⟩ := sw_app hw d8 f12 zc (.val (.int x0)) (.val (.int x1)) (.val (.int x2)) (.val (.int x3)) (.val (.int d4)) (.val (.int d5)) (.val (.int d6)) (.val (.int d7)) (.val (.int d9)) (.val (.int f10)) (.val (.int f11)) (.val (.ref b290)) (.val (.ref b365)) (.unset) (.unset) (.unset) (.unset) T386.heap n0 (X386.more (by decide) (by decide)) hx hby hml hZ hown rfl N386 O392 D0_ (z_d8 : ¬ (d8 < (0 : Int32))) (y_d8 : ¬ ((255 : Int32) < d8)) (hzc : ¬ (zc = (0 : Int32)))
      have c394 := CHr.keep Kq393 sf0 C389.1
      have C395 := CHr.trans C389 c394
      have O396 : Old Z n0 h393 := (O392.keep Kq393 all0)
      obtain ⟨v397, _, ⟨T397, L397, k397, n397⟩, -, X397, ⟨Lc397, hQ397, l397, y397, z397⟩, st397⟩ := Jvm.LawKit.callS X393 hx (y := mn29) hown (mvT hZ (wd34 hw)) (mvT hZ (wd35 hw)) (mvT hZ (wd6 hw)) (mvT hZ (wd36 hw)) (by decide) (backOf (W := 0) (rm_vof la Z a0 hw [] d9 zc h393 n0 O396 D0_ (y_d9 : ¬ ((255 : Int32) < d9)) (z_d9 : ¬ (d9 < (0 : Int32))) (hzc : ¬ (zc = (0 : Int32)))) hZ (wd36 hw) (wd6 hw) (by decide) (by decide)) (g := (mkF mi 178 #[.val (.int x0), .val (.int x1), .val (.int x2), .val (.int x3), .val (.int d4), .val (.int d5), .val (.int d6), .val (.int d7), .val (.int d8), .val (.int d9), .val (.int f10), .val (.int f11), .val (.int f12), .val (.ref b290), .val (.ref b365), .val va_393, .unset, .unset, .unset, .unset] [(.int d9)])) rfl (by rw [hml]; rfl) (argsL := [(.int d9)]) (rest := []) (lenOf pd_29 rfl) rfl (Nat.le_of_ble_eq_true rfl) (hb hby at_178) (fun _ _ => ⟨rfl, e393, (by decide : 8 + 2 ≤ _), (by decide : 45 + 5 ≤ _)⟩)
      dsimp only [Pt.U, Pt.locs, Pt.cells, Pt.slots] at X397 l397 y397 z397 st397 hQ397
      subst l397 y397 z397
      obtain ⟨x_397, t_397, rfl, Nq397, Kq397, fr_x_397, fr_t_397, r397_0⟩ := hQ397
      have N397 := Fr.app N393 Nq397
      have c398 := CHr.keep Kq397 sf0 C395.1
      have C399 := CHr.trans C395 c398
      obtain ⟨T400, h400, X400, e400, E400, A400, D400, -, st400⟩ := newO X397 hx hZ hown (wd48 hw) (wd49 hw) (wd50 hw) rfl (g := (mkF mi 183 #[.val (.int x0), .val (.int x1), .val (.int x2), .val (.int x3), .val (.int d4), .val (.int d5), .val (.int d6), .val (.int d7), .val (.int d8), .val (.int d9), .val (.int f10), .val (.int f11), .val (.int f12), .val (.ref b290), .val (.ref b365), .val va_393, .val (.ref x_397), .unset, .unset, .unset] [])) rfl (hb hby at_183) (by decide) (by decide)
      obtain ⟨b400, q400⟩ : ∃ z, z = T397.heap.size := ⟨_, rfl⟩
      rw [← q400] at A400 D400 st400
      have c401 := CHr.ext E400 C399.1
      have C402 := CHr.trans C399 c401
      have f403 : Fld Z h400 b400 c0_ "appName" c4_ .null := D400 (Or.inr (wd118 hw)) (ty := (.object c1_)) (by decide)
      have f404 : Fld Z h400 b400 c0_ c19_ c4_ .null := D400 (Or.inr (wd120 hw)) (ty := (.object c1_)) (by decide)
      have f405 : Fld Z h400 b400 c0_ "beanName" c4_ .null := D400 (Or.inr (wd122 hw)) (ty := (.object c1_)) (by decide)
      have f406 : Fld Z h400 b400 c0_ "viewName" c4_ .null := D400 (Or.inr (wd124 hw)) (ty := (.object c1_)) (by decide)
      have O407 : Old Z n0 h400 := ((O396.keep Kq397 all0).ext E400)
      have f408 : OStr Z h400 va_393 ([d8] : List Int32) := ((r393_0.keep Kq397 ).ext E400)
      have f409 : LStr Z h400 x_397 t_397 ([d9] : List Int32) := (r397_0.ext E400)
      have ne_b290_b370 : b290 ≠ b370 := Nat.ne_of_lt (Nat.lt_of_lt_of_le A290.lt (Nat.le_trans (Nat.le_trans (Nat.le_trans (Nat.le_trans E295.1 Kq299.1) Kq307.1) E365.1) (Nat.le_of_eq q370.symm)))
      have ne_t_307_b370 : t_307 ≠ b370 := Nat.ne_of_lt (Nat.lt_of_lt_of_le r307_0.ltt (Nat.le_trans E365.1 (Nat.le_of_eq q370.symm)))
      have ne_b290_b365 : b290 ≠ b365 := Nat.ne_of_lt (Nat.lt_of_lt_of_le A290.lt (Nat.le_trans (Nat.le_trans (Nat.le_trans E295.1 Kq299.1) Kq307.1) (Nat.le_of_eq q365.symm)))
      have ne_t_307_b365 : t_307 ≠ b365 := Nat.ne_of_lt (Nat.lt_of_lt_of_le r307_0.ltt (Nat.le_trans (Nat.le_refl _) (Nat.le_of_eq q365.symm)))
      have f410 : LStr Z h400 b290 t_307 ([d4] : List Int32) := ((((((((r307_0.ext E365).ext E370).keep Kq374 (ninS ne_b290_b370 nin0) (ninS ne_t_307_b370 nin0)).keep Kq378 (ninS ne_b290_b370 nin0) (ninS ne_t_307_b370 nin0)).keep Kq386 (ninS ne_b290_b365 nin0) (ninS ne_t_307_b365 nin0)).keep Kq393 nin0 nin0).keep Kq397 nin0 nin0).ext E400)
      have f411 : LStr Z h400 b365 t_386 ([d6, d7] : List Int32) := (((r386_0.keep Kq393 nin0 nin0).keep Kq397 nin0 nin0).ext E400)
      have O412 : Old Z n0 T397.heap := (O396.keep Kq397 all0)
      have g_b400 : n0 ≤ b400 := Nat.le_trans (Nat.le_trans (Nat.le_of_eq O412.1.symm) O412.2.1) (Nat.le_of_eq q400.symm)
      have ne_x_397_b400 : x_397 ≠ b400 := Nat.ne_of_lt (Nat.lt_of_lt_of_le r397_0.lt (Nat.le_trans (Nat.le_refl _) (Nat.le_of_eq q400.symm)))
      have ne_t_397_b400 : t_397 ≠ b400 := Nat.ne_of_lt (Nat.lt_of_lt_of_le r397_0.ltt (Nat.le_trans (Nat.le_refl _) (Nat.le_of_eq q400.symm)))
      have ne_b290_b400 : b290 ≠ b400 := Nat.ne_of_lt (Nat.lt_of_lt_of_le A290.lt (Nat.le_trans (Nat.le_trans (Nat.le_trans (Nat.le_trans (Nat.le_trans (Nat.le_trans (Nat.le_trans (Nat.le_trans (Nat.le_trans (Nat.le_trans E295.1 Kq299.1) Kq307.1) E365.1) E370.1) Kq374.1) Kq378.1) Kq386.1) Kq393.1) Kq397.1) (Nat.le_of_eq q400.symm)))
      have ne_t_307_b400 : t_307 ≠ b400 := Nat.ne_of_lt (Nat.lt_of_lt_of_le r307_0.ltt (Nat.le_trans (Nat.le_trans (Nat.le_trans (Nat.le_trans (Nat.le_trans (Nat.le_trans (Nat.le_trans E365.1 E370.1) Kq374.1) Kq378.1) Kq386.1) Kq393.1) Kq397.1) (Nat.le_of_eq q400.symm)))
      have ne_b365_b400 : b365 ≠ b400 := Nat.ne_of_lt (Nat.lt_of_lt_of_le A365.lt (Nat.le_trans (Nat.le_trans (Nat.le_trans (Nat.le_trans (Nat.le_trans (Nat.le_trans E370.1 Kq374.1) Kq378.1) Kq386.1) Kq393.1) Kq397.1) (Nat.le_of_eq q400.symm)))
      have ne_t_386_b400 : t_386 ≠ b400 := Nat.ne_of_lt (Nat.lt_of_lt_of_le r386_0.ltt (Nat.le_trans (Nat.le_trans Kq393.1 Kq397.1) (Nat.le_of_eq q400.symm)))
      obtain ⟨v413, _, ⟨T413, L413, k413, n413⟩, -, X413, s413, gr413, ⟨Lc413, hQ413, l413, y413, z413, c413⟩, st413⟩ := X400.specialBackS hx (y := mn41) rfl hown (mvT hZ (wd51 hw)) (mvT hZ (wd52 hw)) (mvT hZ (wd53 hw)) (by decide) (backOfSH (W := 1) (rm_gin1 la Z a0 hw [] b400 va_393 ([d8] : List Int32) x_397 t_397 ([d9] : List Int32) b290 t_307 ([d4] : List Int32) b365 t_386 ([d6, d7] : List Int32) zc h400 n0 O407 A400 f403 f404 f405 f406 f408 f409 f410 f411 D0_ g_b400 ne_x_397_b400 ne_t_397_b400 ne_b290_b400 ne_t_307_b400 ne_b365_b400 ne_t_386_b400 (OStr.isRef f408 : va_393.isRef = true) (Nat.succ_ne_zero _ : ([d8] : List Int32).length ≠ 0) (own_a1 s47_d8 : ∀ c ∈ ([d8] : List Int32), ¬ ((c.toInt8.toInt32) = (47 : Int32))) (own_a1 s33_d8 : ∀ c ∈ ([d8] : List Int32), ¬ ((c.toInt8.toInt32) = (33 : Int32))) (Nat.succ_ne_zero _ : ([d9] : List Int32).length ≠ 0) (own_a1 s47_d9 : ∀ c ∈ ([d9] : List Int32), ¬ ((c.toInt8.toInt32) = (47 : Int32))) (own_a1 s33_d9 : ∀ c ∈ ([d9] : List Int32), ¬ ((c.toInt8.toInt32) = (33 : Int32))) (Nat.succ_ne_zero _ : ([d4] : List Int32).length ≠ 0) (own_a1 s47_d4 : ∀ c ∈ ([d4] : List Int32), ¬ ((c.toInt8.toInt32) = (47 : Int32))) (own_a1 s33_d4 : ∀ c ∈ ([d4] : List Int32), ¬ ((c.toInt8.toInt32) = (33 : Int32))) (Nat.succ_ne_zero _ : ([d6, d7] : List Int32).length ≠ 0) (own_a2 s47_d6 s47_d7 : ∀ c ∈ ([d6, d7] : List Int32), ¬ ((c.toInt8.toInt32) = (47 : Int32))) (own_a2 s33_d6 s33_d7 : ∀ c ∈ ([d6, d7] : List Int32), ¬ ((c.toInt8.toInt32) = (33 : Int32))) (hzc : ¬ (zc = (0 : Int32)))) hZ (wd53 hw) (wd50 hw) (by decide) (by decide) hEL C402.1) (g := (mkF mi 195 #[.val (.int x0), .val (.int x1), .val (.int x2), .val (.int x3), .val (.int d4), .val (.int d5), .val (.int d6), .val (.int d7), .val (.int d8), .val (.int d9), .val (.int f10), .val (.int f11), .val (.int f12), .val (.ref b290), .val (.ref b365), .val va_393, .val (.ref x_397), .unset, .unset, .unset] [(.ref b365), (.ref b290), (.ref x_397), va_393, (.ref b400), (.ref b400)])) rfl (by rw [hml]; rfl) (Steps.refl _) (a := b400) (argsL := [va_393, (.ref x_397), (.ref b290), (.ref b365)]) (rest := [(.ref b400)]) (lenOf pd_27 rfl) rfl (Nat.le_of_ble_eq_true rfl) (hb hby at_195) (fun _ _ => ⟨rfl, e400, (by decide : 11 + 20 ≤ _), (by decide : 54 + 308 ≤ _)⟩)
      dsimp only [Pt.U, Pt.locs, Pt.cells, Pt.slots] at X413 s413 gr413 l413 y413 z413 c413 st413 hQ413
      subst l413 y413 z413
      obtain ⟨X413, hS, hZ, hown⟩ := rebS hS (show _ ≤ T400.heap.size by rw [e400]; exact (Nat.le_trans hk (Nat.le_trans (Nat.le_trans (Nat.le_trans (Nat.le_trans (Nat.le_trans (Nat.le_trans (Nat.le_trans (Nat.le_trans (Nat.le_trans (Nat.le_trans (Nat.le_trans E290.1 E295.1) Kq299.1) Kq307.1) E365.1) E370.1) Kq374.1) Kq378.1) Kq386.1) Kq393.1) Kq397.1) E400.1))) X413 s413 gr413 hZ hown
      have hk : T413.heap.size ≤ T413.heap.size := Nat.le_refl _
      obtain ⟨rfl, Nq413, Kq413, r413_0, r413_1, r413_2, r413_3⟩ := hQ413
      have N413 := Fr.app N397 Nq413
      have C414 := CHr.trans C402 c413
      have O415 : Old Z n0 T413.heap := (O407.keep Kq413 (allS g_b400 all0))
      have f416 : LStr Z T413.heap b290 t_307 ([d4] : List Int32) := (f410.keep Kq413 (ninS ne_b290_b400 nin0) (ninS ne_t_307_b400 nin0))
      have f417 : LStr Z T413.heap b365 t_386 ([d6, d7] : List Int32) := (f411.keep Kq413 (ninS ne_b365_b400 nin0) (ninS ne_t_386_b400 nin0))
      obtain ⟨cq418, kq418, q418a, q418b, q418c⟩ := isOf hZ rfl r413_0
      obtain ⟨v418, _, ⟨T418, L418, k418, n418⟩, -, X418, s418, gr418, ⟨Lc418, hQ418, l418, y418, z418, c418⟩, st418⟩ := X413.virtualBackS hx (y := mn43) (z := mn43) hown (mvT hZ (wd125 hw)) (mvT hZ (wd126 hw)) (notFace_of_selects (args := #[]) (mvT hZ (wd128 hw))) (mvT hZ (wd128 hw)) (mvT hZ (wd127 hw)) (by decide) (backOfSH (W := 0) (rm_im1 la Z a0 hw [] b400 b290 t_307 ([d4] : List Int32) b365 t_386 ([d6, d7] : List Int32) zc T413.heap n0 O415 r413_0 r413_2 f416 r413_3 f417 D0_ (rfl : ([d4] : List Int32).length = 1) (rfl : ([d6, d7] : List Int32).length = 2) (hzc : ¬ (zc = (0 : Int32)))) hZ (wd129 hw) (wd50 hw) (by decide) (by decide) hEL C414.1) q418a q418c (g := (mkF mi 202 #[.val (.int x0), .val (.int x1), .val (.int x2), .val (.int x3), .val (.int d4), .val (.int d5), .val (.int d6), .val (.int d7), .val (.int d8), .val (.int d9), .val (.int f10), .val (.int f11), .val (.int f12), .val (.ref b290), .val (.ref b365), .val va_393, .val (.ref x_397), .val (.ref b400), .unset, .unset] [(.ref b400)])) rfl (by rw [hml]; rfl) (Steps.refl _) (argsL := []) (rest := []) (lenOf pd_22 rfl) rfl (Nat.le_of_ble_eq_true rfl) (hb hby at_202) (fun _ _ => ⟨rfl, rfl, (by decide : 31 + 12 ≤ _), (by decide : 362 + 348 ≤ _)⟩)
      dsimp only [Pt.U, Pt.locs, Pt.cells, Pt.slots] at X418 s418 gr418 l418 y418 z418 c418 st418 hQ418
      subst l418 y418 z418
      obtain ⟨X418, hS, hZ, hown⟩ := rebS hS (show _ ≤ T413.heap.size from hk) X418 s418 gr418 hZ hown
      have hk : T418.heap.size ≤ T418.heap.size := Nat.le_refl _
      obtain ⟨x_418, t_418, rfl, Nq418, Kq418, fr_x_418, fr_t_418, r418_0⟩ := hQ418
      have N418 := Fr.app N413 Nq418
      have C419 := CHr.trans C414 c418
      have pre420 : ∀ tt, SP pg ev below (T418.setTop (mkF mi 217 #[.val (.int x0), .val (.int x1), .val (.int x2), .val (.int x3), .val (.int d4), .val (.int d5), .val (.int d6), .val (.int d7), .val (.int d8), .val (.int d9), .val (.int f10), .val (.int f11), .val (.int f12), .val (.ref b290), .val (.ref b365), .val va_393, .val (.ref x_397), .val (.ref b400), .val (.ref x_418), .unset] [])) tt → SP pg ev below (s₁.setTop (entryFrame mi #[(.int x0), (.int x1), (.int x2), (.int x3)] maxLocals)) tt := fun tt kk => pre391 _ (by
        show SP pg ev below (T386.setTop (mkF mi 160 #[.val (.int x0), .val (.int x1), .val (.int x2), .val (.int x3), .val (.int d4), .val (.int d5), .val (.int d6), .val (.int d7), .val (.int d8), .val (.int d9), .val (.int f10), .val (.int f11), .val (.int f12), .val (.ref b290), .val (.ref b365), .unset, .unset, .unset, .unset, .unset] [])) _
        refine st393 _ ?_
        refine XS.iload X393.here hx rfl (hb hby at_176) rfl ?_
        refine st397 _ ?_
        refine XS.astore X397.here hx rfl (hb hby at_181) rfl rfl (l' := #[.val (.int x0), .val (.int x1), .val (.int x2), .val (.int x3), .val (.int d4), .val (.int d5), .val (.int d6), .val (.int d7), .val (.int d8), .val (.int d9), .val (.int f10), .val (.int f11), .val (.int f12), .val (.ref b290), .val (.ref b365), .val va_393, .val (.ref x_397), .unset, .unset, .unset]) rfl ?_
        refine st400 _ ?_
        refine XS.dup X400.here hx rfl (hb hby at_186) rfl rfl ?_
        refine XS.aload X400.here hx rfl (hb hby at_187) rfl (OStr.isRef r393_0) ?_
        refine XS.aload X400.here hx rfl (hb hby at_189) rfl rfl ?_
        refine XS.aload X400.here hx rfl (hb hby at_191) rfl rfl ?_
        refine XS.aload X400.here hx rfl (hb hby at_193) rfl rfl ?_
        refine st413.trans ?_
        refine XS.astore X413.here hx rfl (hb hby at_198) rfl rfl (l' := #[.val (.int x0), .val (.int x1), .val (.int x2), .val (.int x3), .val (.int d4), .val (.int d5), .val (.int d6), .val (.int d7), .val (.int d8), .val (.int d9), .val (.int f10), .val (.int f11), .val (.int f12), .val (.ref b290), .val (.ref b365), .val va_393, .val (.ref x_397), .val (.ref b400), .unset, .unset]) rfl ?_
        refine XS.aload X413.here hx rfl (hb hby at_200) rfl rfl ?_
        refine st418.trans ?_
        refine XS.astore X418.here hx rfl (hb hby at_205) rfl rfl (l' := #[.val (.int x0), .val (.int x1), .val (.int x2), .val (.int x3), .val (.int d4), .val (.int d5), .val (.int d6), .val (.int d7), .val (.int d8), .val (.int d9), .val (.int f10), .val (.int f11), .val (.int f12), .val (.ref b290), .val (.ref b365), .val va_393, .val (.ref x_397), .val (.ref b400), .val (.ref x_418), .unset]) rfl ?_
        refine XS.iload X418.here hx rfl (hb hby at_207) rfl ?_
        refine XS.ifNo X418.here hx rfl (hb hby at_209) rfl ((if0 _ _).trans (feq hc131).1) ?_
        refine XS.iload X418.here hx rfl (hb hby at_212) rfl ?_
        refine XS.ifNo X418.here hx rfl (hb hby at_214) rfl ((if0 _ _).trans (feq hc312).1) ?_
        exact kk)
      have O421 : Old Z n0 T418.heap := (O415.keep Kq418 all0)
      obtain ⟨T422, h422, L422, b_422, kb_422, X422, e422, N422, Kq422, fr_b_422, r422_0, st422⟩ := sw_fill16 hw d4 d6 d7 (.val (.int x0)) (.val (.int x1)) (.val (.int x2)) (.val (.int x3)) (.val (.int d5)) (.val (.int d8)) (.val (.int d9)) (.val (.int f10)) (.val (.int f11)) (.val (.int f12)) (.val (.ref b290)) (.val (.ref b365)) (.val va_393) (.val (.ref x_397)) (.val (.ref b400)) (.val (.ref x_418)) T418.heap n0 (X418.more (by decide) (by decide)) hx hby hml hZ hown rfl N418 O421 (zy_d4 : ¬ (d4 < (0 : Int32)) ∧ ¬ ((255 : Int32) < d4)) (zy_d6 : ¬ (d6 < (0 : Int32)) ∧ ¬ ((255 : Int32) < d6)) (zy_d7 : ¬ (d7 < (0 : Int32)) ∧ ¬ ((255 : Int32) < d7))
      have c423 := CHr.keep Kq422 sf0 C419.1
      have C424 := CHr.trans C419 c423
      obtain ⟨T425, h425, X425, e425, E425, A425, D425, -, st425⟩ := newO X422 hx hZ hown (wd4 hw) (wd5 hw) (wd6 hw) e422 (g := (mkF mi 593 #[.val (.int x0), .val (.int x1), .val (.int x2), .val (.int x3), .val (.int d4), .val (.int d5), .val (.int d6), .val (.int d7), .val (.int d8), .val (.int d9), .val (.int f10), .val (.int f11), .val (.int f12), .val (.ref b290), .val (.ref b365), .val va_393, .val (.ref x_397), .val (.ref b400), .val (.ref x_418), .val (.ref b_422)] [(.ref x_418)])) rfl (hb hby at_593) (by decide) (by decide)
      obtain ⟨b425, q425⟩ : ∃ z, z = h422.size := ⟨_, rfl⟩
      rw [← q425] at A425 D425 st425
      have c426 := CHr.ext E425 C424.1
      have C427 := CHr.trans C424 c426
      have f428 : Fld Z h425 b425 c1_ "coder" "B" (.int 0) := D425 (Or.inr (wd31 hw)) (ty := .byte) (by decide)
      have f429 : Fld Z h425 b425 c1_ "value" "[B" .null := D425 (Or.inr (wd33 hw)) (ty := (.array .byte)) (by decide)
      have O430 : Old Z n0 h425 := ((O421.keep Kq422 all0).ext E425)
      have f431 : Arv Z h425 b_422 kb_422 .char (16 : Int32) [(.int 106), (.int 97), (.int 118), (.int 97), (.int 58), (.int 109), (.int 111), (.int 100), (.int 117), (.int 108), (.int 101), (.int 47), (.int d4), (.int 33), (.int d6), (.int d7)] (.int 0) := (r422_0.ext E425)
      have O432 : Old Z n0 h422 := (O421.keep Kq422 all0)
      have g_b425 : n0 ≤ b425 := Nat.le_trans (Nat.le_trans (Nat.le_of_eq O432.1.symm) O432.2.1) (Nat.le_of_eq q425.symm)
      obtain ⟨v433, _, ⟨T433, L433, k433, n433⟩, -, X433, ⟨Lc433, hQ433, l433, y433, z433⟩, st433⟩ := X425.specialBack hx (y := mn44) rfl hown (mvT hZ (wd8 hw)) (mvT hZ (wd9 hw)) (mvT hZ (wd10 hw)) (by decide) (own_nsc (W := 2) hZ hw (wd5 hw) b425 b_422 kb_422 ([(106 : Int32), (97 : Int32), (118 : Int32), (97 : Int32), (58 : Int32), (109 : Int32), (111 : Int32), (100 : Int32), (117 : Int32), (108 : Int32), (101 : Int32), (47 : Int32), d4, (33 : Int32), d6, d7] : List Int32) zc h425 n0 O430 A425 f429 f428 f431 D0_ g_b425 (Nat.le_of_ble_eq_true rfl : 0 < ([(106 : Int32), (97 : Int32), (118 : Int32), (97 : Int32), (58 : Int32), (109 : Int32), (111 : Int32), (100 : Int32), (117 : Int32), (108 : Int32), (101 : Int32), (47 : Int32), d4, (33 : Int32), d6, d7] : List Int32).length) (Nat.le_of_ble_eq_true rfl : ([(106 : Int32), (97 : Int32), (118 : Int32), (97 : Int32), (58 : Int32), (109 : Int32), (111 : Int32), (100 : Int32), (117 : Int32), (108 : Int32), (101 : Int32), (47 : Int32), d4, (33 : Int32), d6, d7] : List Int32).length ≤ 4000) ((own_bdC (by decide) (own_bdC (by decide) (own_bdC (by decide) (own_bdC (by decide) (own_bdC (by decide) (own_bdC (by decide) (own_bdC (by decide) (own_bdC (by decide) (own_bdC (by decide) (own_bdC (by decide) (own_bdC (by decide) (own_bdC (by decide) (own_bdC zy_d4 (own_bdC (by decide) (own_bdC zy_d6 (own_bdC zy_d7 own_bd0)))))))))))))))) : ∀ c ∈ ([(106 : Int32), (97 : Int32), (118 : Int32), (97 : Int32), (58 : Int32), (109 : Int32), (111 : Int32), (100 : Int32), (117 : Int32), (108 : Int32), (101 : Int32), (47 : Int32), d4, (33 : Int32), d6, d7] : List Int32), ¬ c < 0 ∧ ¬ (255 : Int32) < c) (hzc : ¬ (zc = (0 : Int32))) 16 rfl (by decide) (by decide)) (g := (mkF mi 599 #[.val (.int x0), .val (.int x1), .val (.int x2), .val (.int x3), .val (.int d4), .val (.int d5), .val (.int d6), .val (.int d7), .val (.int d8), .val (.int d9), .val (.int f10), .val (.int f11), .val (.int f12), .val (.ref b290), .val (.ref b365), .val va_393, .val (.ref x_397), .val (.ref b400), .val (.ref x_418), .val (.ref b_422)] [(.ref b_422), (.ref b425), (.ref b425), (.ref x_418)])) rfl (by rw [hml]; rfl) (Steps.refl _) (a := b425) (argsL := [(.ref b_422)]) (rest := [(.ref b425), (.ref x_418)]) (lenOf pd_31 rfl) rfl (Nat.le_of_ble_eq_true rfl) (hb hby at_599) (fun _ _ => ⟨rfl, e425, (by decide : 72 + 1 ≤ _), (by decide : 10020 + 16 ≤ _)⟩)
      dsimp only [Pt.U, Pt.locs, Pt.cells, Pt.slots] at X433 l433 y433 z433 st433 hQ433
      subst l433 y433 z433
      obtain ⟨t_433, rfl, Nq433, Kq433, fr_t_433, r433_0⟩ := hQ433
      have N433 := Fr.app N422 Nq433
      have c434 := CHr.keep Kq433 (sfS (Safe.ext E425 C424.1 (Safe.new (Nat.le_of_eq q425.symm))) sf0) C427.1
      have C435 := CHr.trans C427 c434
      have sf436 : Safe Z ELs _ T433.heap t_433 := (Safe.keep Kq433 (sfS (Safe.ext E425 C424.1 (Safe.new (Nat.le_of_eq q425.symm))) sf0) C427.1 (Safe.new fr_t_433))
      have heq : ∀ d ∈ StrChars.Road.wordsEq, d.before a0 Z = true := fun d hd => hw d ((by decide +kernel : ∀ d ∈ StrChars.Road.wordsEq, d ∈ tables_1) d hd)
      have ne_x_418_b425 : x_418 ≠ b425 := Nat.ne_of_lt (Nat.lt_of_lt_of_le r418_0.lt (Nat.le_trans Kq422.1 (Nat.le_of_eq q425.symm)))
      have ne_t_418_b425 : t_418 ≠ b425 := Nat.ne_of_lt (Nat.lt_of_lt_of_le r418_0.ltt (Nat.le_trans Kq422.1 (Nat.le_of_eq q425.symm)))
      have f437 : LStr Z T433.heap x_418 t_418 (((([] : List Int32) ++ ([(106 : Int32), (97 : Int32), (118 : Int32), (97 : Int32), (58 : Int32), (109 : Int32), (111 : Int32), (100 : Int32), (117 : Int32), (108 : Int32), (101 : Int32), (47 : Int32)] : List Int32)) ++ ([d4] : List Int32)) ++ ((([] : List Int32) ++ ([(33 : Int32)] : List Int32)) ++ ([d6, d7] : List Int32))) := (((r418_0.keep Kq422 nin0 nin0).ext E425).keep Kq433 (ninS ne_x_418_b425 nin0) (ninS ne_t_418_b425 nin0))
      obtain ⟨sE438, sV438, sC438, ⟨kb438, sK438⟩, sb438, sl438⟩ := id f437
      obtain ⟨sE439, sV439, sC439, ⟨kb439, sK439⟩, sb439, sl439⟩ := id r433_0
      have O440 : Old Z n0 T433.heap := (O430.keep Kq433 (allS g_b425 all0))
      obtain ⟨cq441, kq441, q441a, q441b, q441c⟩ := isOf hZ rfl (f437).1
      obtain ⟨v441, _, ⟨T441, L441, k441, n441⟩, -, X441, ⟨Lc441, ⟨hv441, hL441, hh441⟩, l441, y441, z441⟩, st441⟩ := X433.virtualBack hx (y := mn45) (z := mn45) hown (mvT hZ (wd241 hw)) (mvT hZ (wd242 hw)) (notFace_of_selects (args := #[]) (mvT hZ (wd244 hw))) (mvT hZ (wd244 hw)) (mvT hZ (wd243 hw)) (by decide) (StrChars.Road.eqW (W := 0) hZ heq (kI := 4) (wd5 hw) sE438 sV438 sC438 sK438 (own_cod sb438) (own_up sb438) sl438 sE439 sV439 sC439 sK439 (own_cod sb439) (own_up sb439) sl439 (D0_.ext O440.2) hzc (by decide) (by decide)) q441a q441c (g := (mkF mi 602 #[.val (.int x0), .val (.int x1), .val (.int x2), .val (.int x3), .val (.int d4), .val (.int d5), .val (.int d6), .val (.int d7), .val (.int d8), .val (.int d9), .val (.int f10), .val (.int f11), .val (.int f12), .val (.ref b290), .val (.ref b365), .val va_393, .val (.ref x_397), .val (.ref b400), .val (.ref x_418), .val (.ref b_422)] [(.ref b425), (.ref x_418)])) rfl (by rw [hml]; rfl) (Steps.refl _) (argsL := [(.ref b425)]) (rest := []) (lenOf pd_32 rfl) rfl (Nat.le_of_ble_eq_true rfl) (hb hby at_602) (fun _ _ => ⟨rfl, rfl, (by decide : 73 + 0 ≤ _), (by decide : 10036 + 0 ≤ _)⟩)
      dsimp only [Pt.U, Pt.locs, Pt.cells, Pt.slots] at X441 l441 y441 z441 st441 hv441 hL441 hh441
      have hw441 : v441 = some (.int (if (((([] : List Int32) ++ ([(106 : Int32), (97 : Int32), (118 : Int32), (97 : Int32), (58 : Int32), (109 : Int32), (111 : Int32), (100 : Int32), (117 : Int32), (108 : Int32), (101 : Int32), (47 : Int32)] : List Int32)) ++ ([d4] : List Int32)) ++ ((([] : List Int32) ++ ([(33 : Int32)] : List Int32)) ++ ([d6, d7] : List Int32))) = ([(106 : Int32), (97 : Int32), (118 : Int32), (97 : Int32), (58 : Int32), (109 : Int32), (111 : Int32), (100 : Int32), (117 : Int32), (108 : Int32), (101 : Int32), (47 : Int32), d4, (33 : Int32), d6, d7] : List Int32) then (1 : Int32) else 0)) := by rcases hv441 with ⟨q1, q2⟩ | ⟨q1, q2⟩; (rw [q1, if_pos q2]); (rw [q1, if_neg q2])
      clear hv441
      subst hw441 hL441
      subst l441 y441 z441
      have N441 := Fr.app N433 (Fr.nil n0)
      have pre442 : ∀ tt, SP pg ev below (T441.setTop (mkF mi 605 #[.val (.int x0), .val (.int x1), .val (.int x2), .val (.int x3), .val (.int d4), .val (.int d5), .val (.int d6), .val (.int d7), .val (.int d8), .val (.int d9), .val (.int f10), .val (.int f11), .val (.int f12), .val (.ref b290), .val (.ref b365), .val va_393, .val (.ref x_397), .val (.ref b400), .val (.ref x_418), .val (.ref b_422)] [(.int (if (((([] : List Int32) ++ ([(106 : Int32), (97 : Int32), (118 : Int32), (97 : Int32), (58 : Int32), (109 : Int32), (111 : Int32), (100 : Int32), (117 : Int32), (108 : Int32), (101 : Int32), (47 : Int32)] : List Int32)) ++ ([d4] : List Int32)) ++ ((([] : List Int32) ++ ([(33 : Int32)] : List Int32)) ++ ([d6, d7] : List Int32))) = ([(106 : Int32), (97 : Int32), (118 : Int32), (97 : Int32), (58 : Int32), (109 : Int32), (111 : Int32), (100 : Int32), (117 : Int32), (108 : Int32), (101 : Int32), (47 : Int32), d4, (33 : Int32), d6, d7] : List Int32) then (1 : Int32) else 0))])) tt → SP pg ev below (s₁.setTop (entryFrame mi #[(.int x0), (.int x1), (.int x2), (.int x3)] maxLocals)) tt := fun tt kk => pre420 _ (by
        show SP pg ev below (T418.setTop (mkF mi 217 #[.val (.int x0), .val (.int x1), .val (.int x2), .val (.int x3), .val (.int d4), .val (.int d5), .val (.int d6), .val (.int d7), .val (.int d8), .val (.int d9), .val (.int f10), .val (.int f11), .val (.int f12), .val (.ref b290), .val (.ref b365), .val va_393, .val (.ref x_397), .val (.ref b400), .val (.ref x_418), .unset] [])) _
        refine st422 _ ?_
        refine XS.aload X422.here hx rfl (hb hby at_591) rfl rfl ?_
        refine st425 _ ?_
        refine XS.dup X425.here hx rfl (hb hby at_596) rfl rfl ?_
        refine XS.aload X425.here hx rfl (hb hby at_597) rfl rfl ?_
        refine st433.trans ?_
        refine st441.trans ?_
        exact kk)
      have pre443 : ∀ tt, SP pg ev below (T441.setTop (mkF mi 605 #[.val (.int x0), .val (.int x1), .val (.int x2), .val (.int x3), .val (.int d4), .val (.int d5), .val (.int d6), .val (.int d7), .val (.int d8), .val (.int d9), .val (.int f10), .val (.int f11), .val (.int f12), .val (.ref b290), .val (.ref b365), .val va_393, .val (.ref x_397), .val (.ref b400), .val (.ref x_418), .val (.ref b_422)] [(.int 1)])) tt → SP pg ev below (s₁.setTop (entryFrame mi #[(.int x0), (.int x1), (.int x2), (.int x3)] maxLocals)) tt := fun tt kk => pre442 tt (by rw [if_pos (show (((([] : List Int32) ++ ([(106 : Int32), (97 : Int32), (118 : Int32), (97 : Int32), (58 : Int32), (109 : Int32), (111 : Int32), (100 : Int32), (117 : Int32), (108 : Int32), (101 : Int32), (47 : Int32)] : List Int32)) ++ ([d4] : List Int32)) ++ ((([] : List Int32) ++ ([(33 : Int32)] : List Int32)) ++ ([d6, d7] : List Int32))) = ([(106 : Int32), (97 : Int32), (118 : Int32), (97 : Int32), (58 : Int32), (109 : Int32), (111 : Int32), (100 : Int32), (117 : Int32), (108 : Int32), (101 : Int32), (47 : Int32), d4, (33 : Int32), d6, d7] : List Int32) from rfl)]; exact kk)
      obtain ⟨fs, hr, hrun, hended, hWe⟩ := X441.leaveW hS (show _ ≤ T441.heap.size by rw [hh441]; exact (Nat.le_trans hk (Nat.le_trans (Nat.le_trans Kq422.1 E425.1) Kq433.1))) (v := some (.int 1)) (fun hq => by rw [Bd.returns] at hq; cases hq)
      refine ⟨_, _, pre443 _ ?_, hrun, hended, _, _, rfl, ?_, ?_, hWe.1, hWe.2.1, hWe.2.2.1, hWe.2.2.2.mono (by decide) (by decide)⟩
      · show SP pg ev below (T441.setTop (mkF mi 605 #[.val (.int x0), .val (.int x1), .val (.int x2), .val (.int x3), .val (.int d4), .val (.int d5), .val (.int d6), .val (.int d7), .val (.int d8), .val (.int d9), .val (.int f10), .val (.int f11), .val (.int f12), .val (.ref b290), .val (.ref b365), .val va_393, .val (.ref x_397), .val (.ref b400), .val (.ref x_418), .val (.ref b_422)] [(.int 1)])) _
        exact retN X441 hx (t := .boolean) Bd.returns (by simp) (hb hby at_605) hr
      · show Q_law Z x0 x1 x2 x3 zc hE n0 _ T441.heap _
        rw [hh441]
        exact ⟨rfl, N441⟩
      · show CHr Z ELs sb.vm sb.heap T441.vm T441.heap
        rw [hh, hh441]
        exact CHr.trans C435 (CHv.at X441 hZ hEL C435.1)
theorem own_cz {args : Array Value} {s : State} {iz : Int32} (ez : (Term.static c1_ c6_ "Z").eval args s none [] s = some (.int iz)) (h : (Jvm.Cond.not (.eq (.static c1_ c6_ "Z") (.int 0))).before args s = true) : ¬ (iz = (0 : Int32)) := fun q => by
  have h9 := not_v (Cond.before_iff.mp h)
  rw [eq_i ez (Term.int_eval (0 : Int32)) (by rw [q])] at h9
  exact absurd h9 (by simp)
theorem comes_1 {Post : Tables → Env → Array Value → State → Outcome → State → Prop} (hpost : ∀ tb e args s v u, (limb_1_1.after args s (.returned v) u = true ∧ limb_1_2.after args s (.returned v) u = true ∧ True) → ReturnedEndW s (.returned v) u (Jvm.fieldLocs frame_1_writes args s ++ Jvm.arrayLocs frame_1_arrays args s ++ Jvm.staticLocs frame_1_statics s) 80 10688 → Post tb e args s (.returned v) u) :
    ArmFor flags0 classFile x code maxLocals ret World_1 tables_1 room_1 Calls_1 rest_1 Pre_1 Post := by
  intro l hfl _ _ p e ha hcf hk s m args below hf hA hF happ hP
  obtain ⟨hcalls, hrest, hpre⟩ := hP
  obtain ⟨-, -, -, hnamed, -, -, -, hat⟩ := (Spec.applies_iff hf).mp happ
  obtain ⟨hg, hn⟩ := and_e (Cond.before_iff.mp (show (Jvm.Cond.and given_1 narrow_1).before args s = true from hpre))
  obtain ⟨hcnt, hg⟩ := and_e hg
  obtain ⟨ha0, hg⟩ := and_e hg
  obtain ⟨ha1, hg⟩ := and_e hg
  obtain ⟨ha2, hg⟩ := and_e hg
  have ha3 := hg
  obtain ⟨w0, w1, w2, w3, rfl⟩ : ∃ w0 w1 w2 w3 : Value, args = #[w0, w1, w2, w3] := by
    have hs : args.size = 4 := by simpa [Cond.value, given_1] using hcnt
    obtain ⟨L⟩ := args
    match L, hs with
    | [w0, w1, w2, w3], _ => exact ⟨w0, w1, w2, w3, rfl⟩
  have hw := fun d (hd : d ∈ tables_1) => atoms_spec (ws := Cond.code x code maxLocals ret :: tables_1) hat d (List.mem_cons_of_mem _ hd)
  have hfit : Fit s := fun {y c} hc i hi => by
    obtain ⟨ha, rfl⟩ := Array.getElem?_eq_some_iff.mp hc
    have q := List.all_eq_true.mp ((Array.all_eq_true_iff_forall_mem.mp hF) _ (Array.getElem_mem ha)) i (List.mem_range.mpr hi)
    simpa [Array.getElem?_eq_getElem hi] using q
  obtain ⟨hsets, hown0⟩ := atoms_of _ (rest_1_c_eq ▸ (show rest_1_c.before _ s = true from hrest))
  obtain ⟨i0, ei0⟩ := is_v ha0
  obtain rfl : w0 = (.int i0) := Option.some.inj ei0
  obtain ⟨i1, ei1⟩ := is_v ha1
  obtain rfl : w1 = (.int i1) := Option.some.inj ei1
  obtain ⟨i2, ei2⟩ := is_v ha2
  obtain rfl : w2 = (.int i2) := Option.some.inj ei2
  obtain ⟨i3, ei3⟩ := is_v ha3
  obtain rfl : w3 = (.int i3) := Option.some.inj ei3
  have hset := fun i (c : Jvm.Cond) (h : jdkStatics_1[i]? = some c) => hsets c (List.mem_of_getElem? h)
  obtain ⟨iz, ez⟩ := is_v (Cond.before_iff.mp (hset 1 _ rfl))
  have sz := Sta.start ez (Or.inl (hset 0 _ rfl))
  have hz : ¬ (iz = (0 : Int32)) := own_cz ez (hset 2 _ rfl)
  have hCH : CHv s ELs s.vm s.heap := CHv.start (own_EW hw) (fun p hp => hcalls.1 p ((by decide : ∀ p ∈ ELs, p ∈ consts_1) p hp)) (hset 2 _ rfl) (wd23 hw) (wd5 hw)
  obtain ⟨n, o, h1, h2, h3, _, L, rfl, ⟨rfl, N⟩, -, hq⟩ := rm_law l s _ hw tables_1 i0 i1 i2 i3 iz s.heap s.heap.size (Old.start s) sz hz p e ha hcf hk s m _ below hf ((Spec.applies_iff_loose hf).mp happ).1 ⟨rfl, State.Warmed39.refl s, rfl, hCH⟩ trivial
  refine ⟨n, _, h1, h2, h3, hpost _ _ _ _ _ _ ⟨Cond.after_iff.mpr rfl, Cond.after_iff.mpr (eq_i res_at (Term.int_eval (1)) rfl), trivial⟩ ⟨hq.1, hq.2.1, hq.2.2.1, (hq.2.2.2.sift fun y hy => Or.inr (N y hy)).mono (by decide) (by decide)⟩⟩
theorem main_1_1 : Claimed_1_1 := comes_1 fun _ _ _ _ _ _ h hF => ⟨h.1, hF⟩
theorem main_1_2 : Claimed_1_2 := comes_1 fun _ _ _ _ _ _ h hF => ⟨h.2.1, hF⟩

end Jvm.Pilot.@@N@@
namespace Jvm.Pilot.@@N@@
open Jvm Jvm.ClassFile Sem Op Lib Jvm.Free Jvm.Stand Jvm.Pilot.@@N@@.Jvm.D
/-! MADE BY PROGRAM (witnessworld.py) out of the Statement's table words and the real class files: 28 classes; the members and pool entries that the words name. The judged class is class 1, her method 2. -/
namespace start1
open Jvm.ClassFile
def u (s : String) : CpInfo := .utf8 (stringToUtf16 s)
/-- a pool by its gaps: so many unusable entries, then the entry; so many at the end -/
def gap : Nat → List CpInfo → List CpInfo
  | 0, r => r
  | n + 1, r => .unusable :: gap n r
def poolList (es : List (Nat × CpInfo)) (last : Nat) : List CpInfo := es.foldr (fun e r => gap e.1 (e.2 :: r)) (gap last [])
def pool (es : List (Nat × CpInfo)) (last : Nat) : Array CpInfo := ⟨poolList es last⟩
def fileOf (pool : Array CpInfo) (this : Nat) (attrs : Array Attribute := #[]) (ms : Array MethodInfo := #[]) (fl : Nat := 33) (sup : Nat := 0) (ifs : Array Nat := #[]) (fds : Array FieldInfo := #[]) : ClassFile where
  minorVersion := 0
  majorVersion := 65
  constantPool := pool
  accessFlags := fl
  thisClass := this
  superClass := sup
  interfaces := ifs
  fields := fds
  methods := ms
  attributes := attrs
def plain (name : String) (sup : Option ClassId) : Class where
  name := name
  kind := .ordinary
  loader := none
  accessFlags := 33
  super := sup
  interfaces := #[]
  cf := none
  fields := #[]
  methods := #[]
  instanceTypes := #[]
  staticTypes := #[]
  resolved := #[]
  callSites := []
  init := .initialized
  statics := none
  mirror := none

def pool0 : Array CpInfo := pool [(5, u "<init>"), (0, u "()V"), (1, .class_ 10), (1, u "java/lang/Object"), (85, u "clone"), (0, u "()Ljava/lang/Object;")] 26

def k0c0 : Code := { maxStack := 0, maxLocals := 1, code := object_method_1_code, exceptionTable := #[], attributes := #[] }
def k0m0 : Method := { name := "<init>", desc := "()V", sig := { parameters := [], returnType := none }, accessFlags := 1, code := some k0c0 }
def k0m1 : Method := { name := "clone", desc := "()Ljava/lang/Object;", sig := { parameters := [], returnType := some (.object "java/lang/Object") }, accessFlags := 260, code := none }
/-- java/lang/Object -/
def k0 : Class := { plain "java/lang/Object" none with
  accessFlags := 33
  interfaces := #[]
  cf := some (fileOf pool0 8 #[] #[{ accessFlags := 1, nameIndex := 5, descriptorIndex := 6, attributes := #[] }, { accessFlags := 260, nameIndex := 96, descriptorIndex := 97, attributes := #[] }] 33 0 #[] #[])
  fields := #[]
  methods := #[k0m0, k0m1]
  instanceTypes := #[]
  staticTypes := #[]
  resolved := Array.replicate 124 none
  statics := none }

def pool1 : Array CpInfo := pool [(2, .class_ 4), (1, u "java/lang/Object"), (0, u "<init>"), (0, u "()V"), (0, .methodref 8 9), (0, .class_ 10), (0, .nameAndType 11 12), (0, u "com/example/beanloft/beanloft/naming/GlobalNameInModulePinLaw"), (0, u "seg"), (0, u "(I)C"), (0, .class_ 14), (0, u "java/lang/String"), (0, .methodref 13 16), (0, .nameAndType 5 17), (0, u "([C)V"), (0, .methodref 13 19), (0, .nameAndType 20 21), (0, u "valueOf"), (0, u "(C)Ljava/lang/String;"), (0, .class_ 23), (0, u "com/example/beanloft/beanloft/naming/GlobalName"), (0, .methodref 22 25), (0, .nameAndType 5 26), (0, u "(Ljava/lang/String;Ljava/lang/String;Ljava/lang/String;Ljava/lang/String;)V"), (0, .methodref 22 28), (0, .nameAndType 29 30), (0, u "inModule"), (0, u "()Ljava/lang/String;"), (0, .methodref 13 32), (0, .nameAndType 33 34), (0, u "equals"), (0, u "(Ljava/lang/Object;)Z"), (3, u "law"), (0, u "(IIII)Z")] 4

def k1m0 : Method := { name := "<init>", desc := "()V", sig := { parameters := [], returnType := none }, accessFlags := 1, code := none }
def k1c1 : Code := { maxStack := 2, maxLocals := 2, code := method_2_code, exceptionTable := #[], attributes := #[] }
def k1m1 : Method := { name := "seg", desc := "(I)C", sig := { parameters := [.int], returnType := some .char }, accessFlags := 10, code := some k1c1 }
def k1c2 : Code := { maxStack := 6, maxLocals := 20, code := code, exceptionTable := #[], attributes := #[] }
def k1m2 : Method := { name := "law", desc := "(IIII)Z", sig := { parameters := [.int, .int, .int, .int], returnType := some .boolean }, accessFlags := 9, code := some k1c2 }
/-- com/example/beanloft/beanloft/naming/GlobalNameInModulePinLaw -/
def k1 : Class := { plain "com/example/beanloft/beanloft/naming/GlobalNameInModulePinLaw" (some 0) with
  accessFlags := 49
  interfaces := #[]
  cf := some (fileOf pool1 8 #[] #[{ accessFlags := 1, nameIndex := 5, descriptorIndex := 6, attributes := #[] }, { accessFlags := 10, nameIndex := 11, descriptorIndex := 12, attributes := #[] }, { accessFlags := 9, nameIndex := 38, descriptorIndex := 39, attributes := #[] }] 49 2 #[] #[])
  fields := #[]
  methods := #[k1m0, k1m1, k1m2]
  instanceTypes := #[]
  staticTypes := #[]
  resolved := Array.replicate 44 none
  statics := none }

def pool2 : Array CpInfo := pool [(1, .class_ 2), (0, u "java/io/Serializable"), (0, .class_ 4), (0, u "java/lang/Object")] 2

/-- java/io/Serializable -/
def k2 : Class := { plain "java/io/Serializable" (some 0) with
  accessFlags := 1537
  interfaces := #[]
  cf := some (fileOf pool2 1 #[] #[] 1537 3 #[] #[])
  fields := #[]
  methods := #[]
  instanceTypes := #[]
  staticTypes := #[]
  resolved := Array.replicate 7 none
  statics := none }

def pool3 : Array CpInfo := pool [(1, .class_ 2), (0, u "java/lang/Comparable"), (0, .class_ 4), (0, u "java/lang/Object")] 7

/-- java/lang/Comparable -/
def k3 : Class := { plain "java/lang/Comparable" (some 0) with
  accessFlags := 1537
  interfaces := #[]
  cf := some (fileOf pool3 1 #[] #[] 1537 3 #[] #[])
  fields := #[]
  methods := #[]
  instanceTypes := #[]
  staticTypes := #[]
  resolved := Array.replicate 12 none
  statics := none }

def pool4 : Array CpInfo := pool [(2, .class_ 4), (1, u "java/lang/CharSequence"), (42, .class_ 48), (0, u "java/lang/CharSequence$1CodePointIterator"), (10, .class_ 60), (0, u "java/lang/CharSequence$1CharIterator"), (5, .class_ 67), (0, u "java/lang/Object"), (10, u "toString"), (0, u "()Ljava/lang/String;")] 51

def k4m0 : Method := { name := "toString", desc := "()Ljava/lang/String;", sig := { parameters := [], returnType := some (.object "java/lang/String") }, accessFlags := 1025, code := none }
/-- java/lang/CharSequence -/
def k4 : Class := { plain "java/lang/CharSequence" (some 0) with
  accessFlags := 1537
  interfaces := #[]
  cf := some (fileOf pool4 2 #[.nestMembers #[47, 59]] #[{ accessFlags := 1025, nameIndex := 78, descriptorIndex := 79, attributes := #[] }] 1537 66 #[] #[])
  fields := #[]
  methods := #[k4m0]
  instanceTypes := #[]
  staticTypes := #[]
  resolved := Array.replicate 131 none
  statics := none }

def pool5 : Array CpInfo := pool [(1, .class_ 2), (0, u "java/lang/constant/Constable"), (0, .class_ 4), (0, u "java/lang/Object")] 6

/-- java/lang/constant/Constable -/
def k5 : Class := { plain "java/lang/constant/Constable" (some 0) with
  accessFlags := 1537
  interfaces := #[]
  cf := some (fileOf pool5 1 #[] #[] 1537 3 #[] #[])
  fields := #[]
  methods := #[]
  instanceTypes := #[]
  staticTypes := #[]
  resolved := Array.replicate 11 none
  statics := none }

def pool6 : Array CpInfo := pool [(1, .class_ 2), (0, u "java/lang/constant/ConstantDesc"), (0, .class_ 4), (0, u "java/lang/Object")] 32

/-- java/lang/constant/ConstantDesc -/
def k6 : Class := { plain "java/lang/constant/ConstantDesc" (some 0) with
  accessFlags := 1537
  interfaces := #[]
  cf := some (fileOf pool6 1 #[] #[] 1537 3 #[] #[])
  fields := #[]
  methods := #[]
  instanceTypes := #[]
  staticTypes := #[]
  resolved := Array.replicate 37 none
  statics := none }

def pool7 : Array CpInfo := pool [(1, .methodref 2 3), (0, .class_ 4), (0, .nameAndType 5 6), (0, u "java/lang/Object"), (0, u "<init>"), (0, u "()V"), (2, .fieldref 10 11), (0, .class_ 12), (0, .nameAndType 13 14), (0, u "java/lang/String"), (0, u "value"), (0, u "[B"), (0, .fieldref 10 16), (0, .nameAndType 17 18), (0, u "coder"), (0, u "B"), (2, u "hash"), (0, u "I"), (2, u "hashIsZero"), (0, u "Z"), (0, .methodref 10 28), (0, .nameAndType 5 29), (0, u "([CIILjava/lang/Void;)V"), (8, .fieldref 10 39), (0, .nameAndType 40 26), (0, u "COMPACT_STRINGS"), (1, .class_ 44), (1, u "java/lang/StringUTF16"), (0, u "compress"), (1, .methodref 42 48), (0, .nameAndType 49 50), (0, u "coderFromArrayLen"), (0, u "([BI)B"), (2, u "toBytes"), (0, .methodref 55 56), (0, .class_ 57), (0, .nameAndType 58 59), (0, u "java/util/Arrays"), (0, u "copyOfRange"), (0, u "([BII)[B"), (47, .class_ 109), (1, u "java/lang/StringLatin1"), (32, u "()Z"), (34, .methodref 42 178), (0, .nameAndType 45 179), (0, u "([CII)[B"), (13, .class_ 195), (1, u "java/lang/System"), (13, .methodref 10 210), (0, .nameAndType 5 211), (0, u "([BB)V"), (0, .methodref 193 213), (0, .nameAndType 214 215), (0, u "arraycopy"), (0, u "(Ljava/lang/Object;ILjava/lang/Object;II)V"), (118, u "()I"), (0, .methodref 10 336), (0, .nameAndType 17 337), (0, u "()B"), (2, u "()[B"), (28, u "(C)Z"), (92, .nameAndType 463 464), (0, u "toString"), (0, u "()Ljava/lang/String;"), (24, .methodref 10 490), (0, .nameAndType 5 491), (0, u "(Ljava/lang/AbstractStringBuilder;Ljava/lang/Void;)V"), (0, .methodref 10 493), (0, .nameAndType 494 142), (0, u "isLatin1"), (11, .nameAndType 507 334), (0, u "length"), (24, u "getBytes"), (8, .methodref 107 542), (0, .nameAndType 543 544), (0, u "equals"), (0, u "([B[B)Z"), (3, u "(Ljava/lang/CharSequence;)Z"), (0, .methodref 550 506), (0, .class_ 551), (0, u "java/lang/AbstractStringBuilder"), (0, .methodref 550 553), (0, .nameAndType 554 340), (0, u "getValue"), (18, u "(Ljava/lang/Object;)Z"), (1, .class_ 576), (0, u "java/lang/CharSequence"), (12, u "([B[B)I"), (9, u "CASE_INSENSITIVE_ORDER"), (0, u "Ljava/util/Comparator;"), (34, u "indexOf"), (11, .methodref 107 648), (0, .nameAndType 635 589), (43, u "isEmpty"), (17, .interfaceMethodref 575 462), (0, .methodref 10 712), (0, .nameAndType 635 713), (0, u "(Ljava/lang/String;)I"), (68, u "valueOf"), (0, u "(C)Ljava/lang/String;"), (37, u "([BIB)V"), (188, u "([C)V"), (4, .methodref 107 1016), (0, .nameAndType 1017 369), (0, u "canEncode"), (0, .methodref 107 1019), (0, .nameAndType 53 1020), (0, u "(C)[B"), (26, .methodref 550 493), (53, u "serialPersistentFields"), (0, u "[Ljava/io/ObjectStreamField;"), (0, .class_ 1104), (0, u "java/lang/String$CaseInsensitiveComparator"), (1, .class_ 1107), (0, u "java/io/Serializable"), (0, .class_ 1109), (0, u "java/lang/Comparable"), (0, .class_ 1111), (0, u "java/lang/constant/Constable"), (0, .class_ 1113), (0, u "java/lang/constant/ConstantDesc"), (2, u "serialVersionUID"), (0, u "J"), (3, u "REPL"), (0, u "C"), (2, u "LATIN1"), (1, u "UTF16"), (105, u "(Ljava/lang/StringBuilder;)V"), (57, u "contains")] 159

def k7m0 : Method := { name := "<init>", desc := "()V", sig := { parameters := [], returnType := none }, accessFlags := 1, code := none }
def k7c1 : Code := { maxStack := 5, maxLocals := 2, code := jdk_42_method_3_code, exceptionTable := #[], attributes := #[] }
def k7m1 : Method := { name := "<init>", desc := "([C)V", sig := { parameters := [(.array .char)], returnType := none }, accessFlags := 1, code := some k7c1 }
def k7c2 : Code := { maxStack := 3, maxLocals := 2, code := jdk_42_method_53_code, exceptionTable := #[], attributes := #[] }
def k7m2 : Method := { name := "<init>", desc := "(Ljava/lang/StringBuilder;)V", sig := { parameters := [(.object "java/lang/StringBuilder")], returnType := none }, accessFlags := 1, code := some k7c2 }
def k7c3 : Code := { maxStack := 2, maxLocals := 1, code := jdk_42_method_54_code, exceptionTable := #[], attributes := #[] }
def k7m3 : Method := { name := "length", desc := "()I", sig := { parameters := [], returnType := some .int }, accessFlags := 1, code := some k7c3 }
def k7c4 : Code := { maxStack := 1, maxLocals := 1, code := jdk_42_method_55_code, exceptionTable := #[], attributes := #[] }
def k7m4 : Method := { name := "isEmpty", desc := "()Z", sig := { parameters := [], returnType := some .boolean }, accessFlags := 1, code := some k7c4 }
def k7c5 : Code := { maxStack := 2, maxLocals := 3, code := jdk_42_method_66_code, exceptionTable := #[], attributes := #[] }
def k7m5 : Method := { name := "equals", desc := "(Ljava/lang/Object;)Z", sig := { parameters := [(.object "java/lang/Object")], returnType := some .boolean }, accessFlags := 1, code := some k7c5 }
def k7c6 : Code := { maxStack := 2, maxLocals := 3, code := jdk_42_method_84_code, exceptionTable := #[], attributes := #[] }
def k7m6 : Method := { name := "indexOf", desc := "(Ljava/lang/String;)I", sig := { parameters := [(.object "java/lang/String")], returnType := some .int }, accessFlags := 1, code := some k7c6 }
def k7c7 : Code := { maxStack := 2, maxLocals := 2, code := jdk_42_method_97_code, exceptionTable := #[], attributes := #[] }
def k7m7 : Method := { name := "contains", desc := "(Ljava/lang/CharSequence;)Z", sig := { parameters := [(.object "java/lang/CharSequence")], returnType := some .boolean }, accessFlags := 1, code := some k7c7 }
def k7c8 : Code := { maxStack := 1, maxLocals := 1, code := jdk_42_method_126_code, exceptionTable := #[], attributes := #[] }
def k7m8 : Method := { name := "toString", desc := "()Ljava/lang/String;", sig := { parameters := [], returnType := some (.object "java/lang/String") }, accessFlags := 1, code := some k7c8 }
def k7c9 : Code := { maxStack := 4, maxLocals := 1, code := jdk_42_method_139_code, exceptionTable := #[], attributes := #[] }
def k7m9 : Method := { name := "valueOf", desc := "(C)Ljava/lang/String;", sig := { parameters := [.char], returnType := some (.object "java/lang/String") }, accessFlags := 9, code := some k7c9 }
def k7c10 : Code := { maxStack := 5, maxLocals := 4, code := jdk_42_method_147_code, exceptionTable := #[], attributes := #[] }
def k7m10 : Method := { name := "getBytes", desc := "([BIB)V", sig := { parameters := [(.array .byte), .int, .byte], returnType := none }, accessFlags := 0, code := some k7c10 }
def k7c11 : Code := { maxStack := 4, maxLocals := 6, code := jdk_42_method_149_code, exceptionTable := #[], attributes := #[] }
def k7m11 : Method := { name := "<init>", desc := "([CIILjava/lang/Void;)V", sig := { parameters := [(.array .char), .int, .int, (.object "java/lang/Void")], returnType := none }, accessFlags := 2, code := some k7c11 }
def k7c12 : Code := { maxStack := 5, maxLocals := 5, code := jdk_42_method_150_code, exceptionTable := #[], attributes := #[] }
def k7m12 : Method := { name := "<init>", desc := "(Ljava/lang/AbstractStringBuilder;Ljava/lang/Void;)V", sig := { parameters := [(.object "java/lang/AbstractStringBuilder"), (.object "java/lang/Void")], returnType := none }, accessFlags := 0, code := some k7c12 }
def k7c13 : Code := { maxStack := 2, maxLocals := 3, code := jdk_42_method_151_code, exceptionTable := #[], attributes := #[] }
def k7m13 : Method := { name := "<init>", desc := "([BB)V", sig := { parameters := [(.array .byte), .byte], returnType := none }, accessFlags := 0, code := some k7c13 }
def k7c14 : Code := { maxStack := 1, maxLocals := 1, code := jdk_42_method_152_code, exceptionTable := #[], attributes := #[] }
def k7m14 : Method := { name := "coder", desc := "()B", sig := { parameters := [], returnType := some .byte }, accessFlags := 0, code := some k7c14 }
def k7c15 : Code := { maxStack := 1, maxLocals := 1, code := jdk_42_method_154_code, exceptionTable := #[], attributes := #[] }
def k7m15 : Method := { name := "isLatin1", desc := "()Z", sig := { parameters := [], returnType := some .boolean }, accessFlags := 0, code := some k7c15 }
/-- java/lang/String -/
def k7 : Class := { plain "java/lang/String" (some 0) with
  accessFlags := 49
  interfaces := #[2, 3, 4, 5, 6]
  cf := some (fileOf pool7 10 #[.nestMembers #[1103]] #[{ accessFlags := 1, nameIndex := 5, descriptorIndex := 6, attributes := #[] }, { accessFlags := 1, nameIndex := 5, descriptorIndex := 1010, attributes := #[] }, { accessFlags := 1, nameIndex := 5, descriptorIndex := 1233, attributes := #[] }, { accessFlags := 1, nameIndex := 507, descriptorIndex := 334, attributes := #[] }, { accessFlags := 1, nameIndex := 692, descriptorIndex := 142, attributes := #[] }, { accessFlags := 1, nameIndex := 543, descriptorIndex := 573, attributes := #[] }, { accessFlags := 1, nameIndex := 635, descriptorIndex := 713, attributes := #[] }, { accessFlags := 1, nameIndex := 1291, descriptorIndex := 548, attributes := #[] }, { accessFlags := 1, nameIndex := 463, descriptorIndex := 464, attributes := #[] }, { accessFlags := 9, nameIndex := 782, descriptorIndex := 783, attributes := #[] }, { accessFlags := 0, nameIndex := 532, descriptorIndex := 821, attributes := #[] }, { accessFlags := 2, nameIndex := 5, descriptorIndex := 29, attributes := #[] }, { accessFlags := 0, nameIndex := 5, descriptorIndex := 491, attributes := #[] }, { accessFlags := 0, nameIndex := 5, descriptorIndex := 211, attributes := #[] }, { accessFlags := 0, nameIndex := 17, descriptorIndex := 337, attributes := #[] }, { accessFlags := 0, nameIndex := 494, descriptorIndex := 142, attributes := #[] }] 49 2 #[1106, 1108, 575, 1110, 1112] #[{ accessFlags := 18, nameIndex := 13, descriptorIndex := 14, attributes := #[] }, { accessFlags := 18, nameIndex := 17, descriptorIndex := 18, attributes := #[] }, { accessFlags := 2, nameIndex := 21, descriptorIndex := 22, attributes := #[] }, { accessFlags := 2, nameIndex := 25, descriptorIndex := 26, attributes := #[] }, { accessFlags := 26, nameIndex := 1116, descriptorIndex := 1117, attributes := #[] }, { accessFlags := 24, nameIndex := 40, descriptorIndex := 26, attributes := #[] }, { accessFlags := 26, nameIndex := 1101, descriptorIndex := 1102, attributes := #[] }, { accessFlags := 26, nameIndex := 1121, descriptorIndex := 1122, attributes := #[] }, { accessFlags := 25, nameIndex := 599, descriptorIndex := 600, attributes := #[] }, { accessFlags := 24, nameIndex := 1125, descriptorIndex := 18, attributes := #[] }, { accessFlags := 24, nameIndex := 1127, descriptorIndex := 18, attributes := #[] }])
  fields := #[{ name := "value", type := (.array .byte), accessFlags := 18, slot := 0, constantValue := 0 }, { name := "coder", type := .byte, accessFlags := 18, slot := 1, constantValue := 0 }, { name := "hash", type := .int, accessFlags := 2, slot := 2, constantValue := 0 }, { name := "hashIsZero", type := .boolean, accessFlags := 2, slot := 3, constantValue := 0 }, { name := "serialVersionUID", type := .long, accessFlags := 26, slot := 0, constantValue := 0 }, { name := "COMPACT_STRINGS", type := .boolean, accessFlags := 24, slot := 1, constantValue := 0 }, { name := "serialPersistentFields", type := (.array (.object "java/io/ObjectStreamField")), accessFlags := 26, slot := 2, constantValue := 0 }, { name := "REPL", type := .char, accessFlags := 26, slot := 3, constantValue := 0 }, { name := "CASE_INSENSITIVE_ORDER", type := (.object "java/util/Comparator"), accessFlags := 25, slot := 4, constantValue := 0 }, { name := "LATIN1", type := .byte, accessFlags := 24, slot := 5, constantValue := 0 }, { name := "UTF16", type := .byte, accessFlags := 24, slot := 6, constantValue := 0 }]
  methods := #[k7m0, k7m1, k7m2, k7m3, k7m4, k7m5, k7m6, k7m7, k7m8, k7m9, k7m10, k7m11, k7m12, k7m13, k7m14, k7m15]
  instanceTypes := #[(.array .byte), .byte, .int, .boolean]
  staticTypes := #[.long, .boolean, (.array (.object "java/io/ObjectStreamField")), .char, (.object "java/util/Comparator"), .byte, .byte]
  resolved := Array.replicate 1451 none
  statics := some 0 }

def pool8 : Array CpInfo := pool [(6, .class_ 8), (1, u "java/lang/Object"), (0, u "<init>"), (0, u "()V"), (1, .class_ 14), (1, u "java/lang/StringUTF16"), (31, u "$assertionsDisabled"), (0, u "Z"), (13, u "HI_BYTE_SHIFT"), (0, u "I"), (2, u "LO_BYTE_SHIFT"), (49, .methodref 12 116), (0, .nameAndType 117 118), (0, u "compress"), (0, u "([CI[BII)I"), (3, u "([CII)[B"), (138, u "coderFromArrayLen"), (0, u "([BI)B"), (106, .class_ 371), (1, u "java/lang/StringUTF16$LinesSpliterator"), (58, u "MAX_LENGTH"), (196, .class_ 628), (0, u "java/lang/StringUTF16$CodePointsSpliterator"), (0, .class_ 630), (0, u "java/lang/StringUTF16$CharsSpliterator")] 4

def k8m0 : Method := { name := "<init>", desc := "()V", sig := { parameters := [], returnType := none }, accessFlags := 0, code := none }
def k8c1 : Code := { maxStack := 2, maxLocals := 2, code := jdk_52_method_15_code, exceptionTable := #[], attributes := #[] }
def k8m1 : Method := { name := "coderFromArrayLen", desc := "([BI)B", sig := { parameters := [(.array .byte), .int], returnType := some .byte }, accessFlags := 8, code := some k8c1 }
def k8c2 : Code := { maxStack := 5, maxLocals := 6, code := jdk_52_method_16_code, exceptionTable := #[], attributes := #[] }
def k8m2 : Method := { name := "compress", desc := "([CII)[B", sig := { parameters := [(.array .char), .int, .int], returnType := some (.array .byte) }, accessFlags := 9, code := some k8c2 }
def k8c3 : Code := { maxStack := 3, maxLocals := 7, code := jdk_52_method_21_code, exceptionTable := #[], attributes := #[] }
def k8m3 : Method := { name := "compress", desc := "([CI[BII)I", sig := { parameters := [(.array .char), .int, (.array .byte), .int, .int], returnType := some .int }, accessFlags := 9, code := some k8c3 }
/-- java/lang/StringUTF16 -/
def k8 : Class := { plain "java/lang/StringUTF16" (some 0) with
  accessFlags := 48
  interfaces := #[]
  cf := some (fileOf pool8 12 #[.nestMembers #[627, 629, 369]] #[{ accessFlags := 0, nameIndex := 9, descriptorIndex := 10, attributes := #[] }, { accessFlags := 8, nameIndex := 261, descriptorIndex := 262, attributes := #[] }, { accessFlags := 9, nameIndex := 117, descriptorIndex := 122, attributes := #[] }, { accessFlags := 9, nameIndex := 117, descriptorIndex := 118, attributes := #[] }] 48 6 #[] #[{ accessFlags := 26, nameIndex := 61, descriptorIndex := 62, attributes := #[] }, { accessFlags := 26, nameIndex := 65, descriptorIndex := 62, attributes := #[] }, { accessFlags := 24, nameIndex := 430, descriptorIndex := 62, attributes := #[] }, { accessFlags := 4120, nameIndex := 46, descriptorIndex := 47, attributes := #[] }])
  fields := #[{ name := "HI_BYTE_SHIFT", type := .int, accessFlags := 26, slot := 0, constantValue := 0 }, { name := "LO_BYTE_SHIFT", type := .int, accessFlags := 26, slot := 1, constantValue := 0 }, { name := "MAX_LENGTH", type := .int, accessFlags := 24, slot := 2, constantValue := 0 }, { name := "$assertionsDisabled", type := .boolean, accessFlags := 4120, slot := 3, constantValue := 0 }]
  methods := #[k8m0, k8m1, k8m2, k8m3]
  instanceTypes := #[]
  staticTypes := #[.int, .int, .int, .boolean]
  resolved := Array.replicate 635 none
  statics := none }

def pool9 : Array CpInfo := pool [(4, .class_ 6), (1, u "java/lang/Object"), (0, u "<init>"), (0, u "()V"), (5, .class_ 16), (1, u "java/lang/StringLatin1"), (73, u "canEncode"), (8, .methodref 14 100), (0, .nameAndType 101 102), (0, u "indexOf"), (0, u "([BI[BII)I"), (2, u "(C)Z"), (15, u "$assertionsDisabled"), (0, u "Z"), (98, .class_ 223), (1, u "java/lang/StringLatin1$LinesSpliterator"), (57, u "equals"), (0, u "([B[B)Z"), (4, u "([B[B)I"), (92, u "toBytes"), (1, u "(C)[B"), (7, .class_ 391), (0, u "java/lang/StringLatin1$CharsSpliterator")] 3

def k9m0 : Method := { name := "<init>", desc := "()V", sig := { parameters := [], returnType := none }, accessFlags := 0, code := none }
def k9c1 : Code := { maxStack := 2, maxLocals := 1, code := jdk_43_method_3_code, exceptionTable := #[], attributes := #[] }
def k9m1 : Method := { name := "canEncode", desc := "(C)Z", sig := { parameters := [.char], returnType := some .boolean }, accessFlags := 9, code := some k9c1 }
def k9c2 : Code := { maxStack := 3, maxLocals := 3, code := jdk_43_method_13_code, exceptionTable := #[], attributes := #[] }
def k9m2 : Method := { name := "equals", desc := "([B[B)Z", sig := { parameters := [(.array .byte), (.array .byte)], returnType := some .boolean }, accessFlags := 9, code := some k9c2 }
def k9c3 : Code := { maxStack := 5, maxLocals := 2, code := jdk_43_method_24_code, exceptionTable := #[], attributes := #[] }
def k9m3 : Method := { name := "indexOf", desc := "([B[B)I", sig := { parameters := [(.array .byte), (.array .byte)], returnType := some .int }, accessFlags := 9, code := some k9c3 }
def k9c4 : Code := { maxStack := 3, maxLocals := 11, code := jdk_43_method_25_code, exceptionTable := #[], attributes := #[] }
def k9m4 : Method := { name := "indexOf", desc := "([BI[BII)I", sig := { parameters := [(.array .byte), .int, (.array .byte), .int, .int], returnType := some .int }, accessFlags := 9, code := some k9c4 }
def k9c5 : Code := { maxStack := 4, maxLocals := 1, code := jdk_43_method_46_code, exceptionTable := #[], attributes := #[] }
def k9m5 : Method := { name := "toBytes", desc := "(C)[B", sig := { parameters := [.char], returnType := some (.array .byte) }, accessFlags := 9, code := some k9c5 }
/-- java/lang/StringLatin1 -/
def k9 : Class := { plain "java/lang/StringLatin1" (some 0) with
  accessFlags := 48
  interfaces := #[]
  cf := some (fileOf pool9 14 #[.nestMembers #[390, 221]] #[{ accessFlags := 0, nameIndex := 7, descriptorIndex := 8, attributes := #[] }, { accessFlags := 9, nameIndex := 90, descriptorIndex := 105, attributes := #[] }, { accessFlags := 9, nameIndex := 281, descriptorIndex := 282, attributes := #[] }, { accessFlags := 9, nameIndex := 101, descriptorIndex := 287, attributes := #[] }, { accessFlags := 9, nameIndex := 101, descriptorIndex := 102, attributes := #[] }, { accessFlags := 9, nameIndex := 380, descriptorIndex := 382, attributes := #[] }] 48 4 #[] #[{ accessFlags := 4120, nameIndex := 121, descriptorIndex := 122, attributes := #[] }])
  fields := #[{ name := "$assertionsDisabled", type := .boolean, accessFlags := 4120, slot := 0, constantValue := 0 }]
  methods := #[k9m0, k9m1, k9m2, k9m3, k9m4, k9m5]
  instanceTypes := #[]
  staticTypes := #[.boolean]
  resolved := Array.replicate 395 none
  statics := none }

def pool10 : Array CpInfo := pool [(1, .methodref 2 3), (0, .class_ 4), (0, .nameAndType 5 6), (0, u "java/lang/Object"), (0, u "<init>"), (0, u "()V"), (0, .class_ 8), (0, u "java/lang/Record")] 13

def k10c0 : Code := { maxStack := 1, maxLocals := 1, code := jdk_30_method_1_code, exceptionTable := #[], attributes := #[] }
def k10m0 : Method := { name := "<init>", desc := "()V", sig := { parameters := [], returnType := none }, accessFlags := 4, code := some k10c0 }
/-- java/lang/Record -/
def k10 : Class := { plain "java/lang/Record" (some 0) with
  accessFlags := 1057
  interfaces := #[]
  cf := some (fileOf pool10 7 #[] #[{ accessFlags := 4, nameIndex := 5, descriptorIndex := 6, attributes := #[] }] 1057 2 #[] #[])
  fields := #[]
  methods := #[k10m0]
  instanceTypes := #[]
  staticTypes := #[]
  resolved := Array.replicate 22 none
  statics := none }

def pool11 : Array CpInfo := pool [(1, .methodref 2 3), (0, .class_ 4), (0, .nameAndType 5 6), (0, u "java/lang/Record"), (0, u "<init>"), (0, u "()V"), (0, .string 8), (0, u "moduleName"), (0, .methodref 10 11), (0, .class_ 12), (0, .nameAndType 13 14), (0, u "java/util/Objects"), (0, u "requireNonNull"), (0, u "(Ljava/lang/Object;Ljava/lang/String;)Ljava/lang/Object;"), (0, .string 16), (0, u "beanName"), (0, .string 18), (0, u "application name"), (0, .methodref 20 21), (0, .class_ 22), (0, .nameAndType 23 24), (0, u "com/example/beanloft/beanloft/naming/GlobalName"), (0, u "checkSegment"), (0, u "(Ljava/lang/String;Ljava/lang/String;Ljava/lang/String;Ljava/lang/String;)V"), (0, .string 26), (0, u "module name"), (0, .string 28), (0, u "bean name"), (0, .string 30), (0, u "view name"), (0, .fieldref 20 32), (0, .nameAndType 33 34), (0, u "appName"), (0, u "Ljava/lang/String;"), (0, .fieldref 20 36), (0, .nameAndType 8 34), (0, .fieldref 20 38), (0, .nameAndType 16 34), (0, .fieldref 20 40), (0, .nameAndType 41 34), (0, u "viewName"), (5, .class_ 49), (1, u "java/lang/String"), (20, .class_ 71), (0, u "java/lang/StringBuilder"), (0, .methodref 70 3), (2, .methodref 70 76), (0, .nameAndType 77 78), (0, u "append"), (0, u "(Ljava/lang/String;)Ljava/lang/StringBuilder;"), (5, .methodref 70 85), (0, .nameAndType 86 87), (0, u "toString"), (0, u "()Ljava/lang/String;"), (17, .string 106), (0, u "/"), (0, .methodref 20 108), (0, .nameAndType 109 87), (0, u "viewSuffix"), (0, .string 111), (0, u "java:module/"), (6, .string 119), (0, u ""), (0, .string 121), (0, u "!"), (0, .methodref 47 123), (0, .nameAndType 124 125), (0, u "isEmpty"), (0, u "()Z"), (0, .methodref 47 127), (0, .nameAndType 128 129), (0, u "contains"), (0, u "(Ljava/lang/CharSequence;)Z"), (26, u "inModule")] 25

def k11c0 : Code := { maxStack := 4, maxLocals := 5, code := prog_9_method_1_code, exceptionTable := #[], attributes := #[] }
def k11m0 : Method := { name := "<init>", desc := "(Ljava/lang/String;Ljava/lang/String;Ljava/lang/String;Ljava/lang/String;)V", sig := { parameters := [(.object "java/lang/String"), (.object "java/lang/String"), (.object "java/lang/String"), (.object "java/lang/String")], returnType := none }, accessFlags := 1, code := some k11c0 }
def k11c1 : Code := { maxStack := 2, maxLocals := 1, code := prog_9_method_6_code, exceptionTable := #[], attributes := #[] }
def k11m1 : Method := { name := "inModule", desc := "()Ljava/lang/String;", sig := { parameters := [], returnType := some (.object "java/lang/String") }, accessFlags := 1, code := some k11c1 }
def k11c2 : Code := { maxStack := 2, maxLocals := 1, code := prog_9_method_8_code, exceptionTable := #[], attributes := #[] }
def k11m2 : Method := { name := "viewSuffix", desc := "()Ljava/lang/String;", sig := { parameters := [], returnType := some (.object "java/lang/String") }, accessFlags := 2, code := some k11c2 }
def k11c3 : Code := { maxStack := 7, maxLocals := 4, code := prog_9_method_9_code, exceptionTable := #[], attributes := #[] }
def k11m3 : Method := { name := "checkSegment", desc := "(Ljava/lang/String;Ljava/lang/String;Ljava/lang/String;Ljava/lang/String;)V", sig := { parameters := [(.object "java/lang/String"), (.object "java/lang/String"), (.object "java/lang/String"), (.object "java/lang/String")], returnType := none }, accessFlags := 10, code := some k11c3 }
/-- com/example/beanloft/beanloft/naming/GlobalName -/
def k11 : Class := { plain "com/example/beanloft/beanloft/naming/GlobalName" (some 10) with
  accessFlags := 49
  interfaces := #[]
  cf := some (fileOf pool11 20 #[] #[{ accessFlags := 1, nameIndex := 5, descriptorIndex := 24, attributes := #[] }, { accessFlags := 1, nameIndex := 156, descriptorIndex := 87, attributes := #[] }, { accessFlags := 2, nameIndex := 109, descriptorIndex := 87, attributes := #[] }, { accessFlags := 10, nameIndex := 23, descriptorIndex := 24, attributes := #[] }] 49 2 #[] #[{ accessFlags := 18, nameIndex := 33, descriptorIndex := 34, attributes := #[] }, { accessFlags := 18, nameIndex := 8, descriptorIndex := 34, attributes := #[] }, { accessFlags := 18, nameIndex := 16, descriptorIndex := 34, attributes := #[] }, { accessFlags := 18, nameIndex := 41, descriptorIndex := 34, attributes := #[] }])
  fields := #[{ name := "appName", type := (.object "java/lang/String"), accessFlags := 18, slot := 0, constantValue := 0 }, { name := "moduleName", type := (.object "java/lang/String"), accessFlags := 18, slot := 1, constantValue := 0 }, { name := "beanName", type := (.object "java/lang/String"), accessFlags := 18, slot := 2, constantValue := 0 }, { name := "viewName", type := (.object "java/lang/String"), accessFlags := 18, slot := 3, constantValue := 0 }]
  methods := #[k11m0, k11m1, k11m2, k11m3]
  instanceTypes := #[(.object "java/lang/String"), (.object "java/lang/String"), (.object "java/lang/String"), (.object "java/lang/String")]
  staticTypes := #[]
  resolved := Array.replicate 182 none
  statics := none }

def pool12 : Array CpInfo := pool [(2, .class_ 4), (1, u "java/lang/Object"), (0, u "<init>"), (0, u "()V"), (35, .class_ 44), (1, u "java/util/Objects"), (0, u "requireNonNull"), (48, u "(Ljava/lang/Object;Ljava/lang/String;)Ljava/lang/Object;")] 89

def k12m0 : Method := { name := "<init>", desc := "()V", sig := { parameters := [], returnType := none }, accessFlags := 2, code := none }
def k12c1 : Code := { maxStack := 3, maxLocals := 2, code := jdk_31_method_11_code, exceptionTable := #[], attributes := #[] }
def k12m1 : Method := { name := "requireNonNull", desc := "(Ljava/lang/Object;Ljava/lang/String;)Ljava/lang/Object;", sig := { parameters := [(.object "java/lang/Object"), (.object "java/lang/String")], returnType := some (.object "java/lang/Object") }, accessFlags := 9, code := some k12c1 }
/-- java/util/Objects -/
def k12 : Class := { plain "java/util/Objects" (some 0) with
  accessFlags := 49
  interfaces := #[]
  cf := some (fileOf pool12 42 #[] #[{ accessFlags := 2, nameIndex := 5, descriptorIndex := 6, attributes := #[] }, { accessFlags := 9, nameIndex := 45, descriptorIndex := 94, attributes := #[] }] 49 2 #[] #[])
  fields := #[]
  methods := #[k12m0, k12m1]
  instanceTypes := #[]
  staticTypes := #[]
  resolved := Array.replicate 184 none
  statics := none }

def pool13 : Array CpInfo := pool [(1, .class_ 2), (0, u "java/lang/Appendable"), (0, .class_ 4), (0, u "java/lang/Object")] 9

/-- java/lang/Appendable -/
def k13 : Class := { plain "java/lang/Appendable" (some 0) with
  accessFlags := 1537
  interfaces := #[]
  cf := some (fileOf pool13 1 #[] #[] 1537 3 #[] #[])
  fields := #[]
  methods := #[]
  instanceTypes := #[]
  staticTypes := #[]
  resolved := Array.replicate 14 none
  statics := none }

def pool14 : Array CpInfo := pool [(1, .class_ 2), (0, u "java/lang/String"), (0, .methodref 4 5), (0, .class_ 6), (0, .nameAndType 7 8), (0, u "java/lang/Object"), (0, u "<init>"), (0, u "()V"), (1, .class_ 12), (1, u "java/lang/AbstractStringBuilder"), (0, u "EMPTYVALUE"), (0, u "[B"), (0, .fieldref 10 16), (0, .nameAndType 17 14), (0, u "value"), (0, .fieldref 1 19), (0, .nameAndType 20 21), (0, u "COMPACT_STRINGS"), (0, u "Z"), (0, .fieldref 10 23), (0, .nameAndType 24 25), (0, u "coder"), (0, u "B"), (6, .methodref 1 33), (0, .nameAndType 34 35), (0, u "length"), (0, u "()I"), (3, .integer 2147483647), (0, .methodref 1 41), (0, .nameAndType 24 42), (0, u "()B"), (2, u "append"), (0, u "(Ljava/lang/String;)Ljava/lang/AbstractStringBuilder;"), (1, .class_ 49), (0, u "java/lang/CharSequence"), (19, u "(Ljava/lang/String;)V"), (5, u "maybeLatin1"), (3, .fieldref 10 80), (0, .nameAndType 81 82), (0, u "count"), (0, u "I"), (2, u "isLatin1"), (0, u "()Z"), (13, .methodref 10 101), (0, .nameAndType 102 103), (0, u "ensureCapacityInternal"), (0, u "(I)V"), (0, .methodref 10 105), (0, .nameAndType 106 107), (0, u "newCapacity"), (0, u "(I)I"), (0, .methodref 109 110), (0, .class_ 111), (0, .nameAndType 112 113), (0, u "java/util/Arrays"), (0, u "copyOf"), (0, u "([BI)[B"), (0, .methodref 115 116), (0, .class_ 117), (0, .nameAndType 118 119), (0, u "jdk/internal/util/ArraysSupport"), (0, u "newLength"), (0, u "(III)I"), (88, .methodref 10 209), (0, .nameAndType 210 211), (0, u "putStringAt"), (0, u "(ILjava/lang/String;)V"), (5, u "inflateIfNeededFor"), (2, .nameAndType 221 222), (0, u "getBytes"), (0, u "([BIB)V"), (174, .methodref 10 398), (0, .nameAndType 217 69), (0, .methodref 1 220), (3, u "()[B"), (40, .class_ 445), (0, u "java/lang/Appendable"), (106, u "getValue")] 56

def k14m0 : Method := { name := "<init>", desc := "()V", sig := { parameters := [], returnType := none }, accessFlags := 0, code := none }
def k14c1 : Code := { maxStack := 2, maxLocals := 2, code := jdk_68_method_2_code, exceptionTable := #[], attributes := #[] }
def k14m1 : Method := { name := "<init>", desc := "(I)V", sig := { parameters := [.int], returnType := none }, accessFlags := 0, code := some k14c1 }
def k14c2 : Code := { maxStack := 1, maxLocals := 1, code := jdk_68_method_6_code, exceptionTable := #[], attributes := #[] }
def k14m2 : Method := { name := "length", desc := "()I", sig := { parameters := [], returnType := some .int }, accessFlags := 1, code := some k14c2 }
def k14c3 : Code := { maxStack := 4, maxLocals := 3, code := jdk_68_method_9_code, exceptionTable := #[], attributes := #[] }
def k14m3 : Method := { name := "ensureCapacityInternal", desc := "(I)V", sig := { parameters := [.int], returnType := none }, accessFlags := 2, code := some k14c3 }
def k14c4 : Code := { maxStack := 5, maxLocals := 6, code := jdk_68_method_10_code, exceptionTable := #[], attributes := #[] }
def k14m4 : Method := { name := "newCapacity", desc := "(I)I", sig := { parameters := [.int], returnType := some .int }, accessFlags := 2, code := some k14c4 }
def k14c5 : Code := { maxStack := 3, maxLocals := 3, code := jdk_68_method_22_code, exceptionTable := #[], attributes := #[] }
def k14m5 : Method := { name := "append", desc := "(Ljava/lang/String;)Ljava/lang/AbstractStringBuilder;", sig := { parameters := [(.object "java/lang/String")], returnType := some (.object "java/lang/AbstractStringBuilder") }, accessFlags := 1, code := some k14c5 }
def k14c6 : Code := { maxStack := 1, maxLocals := 1, code := jdk_68_method_64_code, exceptionTable := #[], attributes := #[] }
def k14m6 : Method := { name := "getValue", desc := "()[B", sig := { parameters := [], returnType := some (.array .byte) }, accessFlags := 16, code := some k14c6 }
def k14c7 : Code := { maxStack := 1, maxLocals := 1, code := jdk_68_method_68_code, exceptionTable := #[], attributes := #[] }
def k14m7 : Method := { name := "isLatin1", desc := "()Z", sig := { parameters := [], returnType := some .boolean }, accessFlags := 16, code := some k14c7 }
def k14c8 : Code := { maxStack := 2, maxLocals := 2, code := jdk_68_method_71_code, exceptionTable := #[], attributes := #[] }
def k14m8 : Method := { name := "inflateIfNeededFor", desc := "(Ljava/lang/String;)V", sig := { parameters := [(.object "java/lang/String")], returnType := none }, accessFlags := 2, code := some k14c8 }
def k14c9 : Code := { maxStack := 4, maxLocals := 3, code := jdk_68_method_73_code, exceptionTable := #[], attributes := #[] }
def k14m9 : Method := { name := "putStringAt", desc := "(ILjava/lang/String;)V", sig := { parameters := [.int, (.object "java/lang/String")], returnType := none }, accessFlags := 2, code := some k14c9 }
/-- java/lang/AbstractStringBuilder -/
def k14 : Class := { plain "java/lang/AbstractStringBuilder" (some 0) with
  accessFlags := 1056
  interfaces := #[13, 4]
  cf := some (fileOf pool14 10 #[] #[{ accessFlags := 0, nameIndex := 7, descriptorIndex := 8, attributes := #[] }, { accessFlags := 0, nameIndex := 7, descriptorIndex := 103, attributes := #[] }, { accessFlags := 1, nameIndex := 34, descriptorIndex := 35, attributes := #[] }, { accessFlags := 2, nameIndex := 102, descriptorIndex := 103, attributes := #[] }, { accessFlags := 2, nameIndex := 106, descriptorIndex := 107, attributes := #[] }, { accessFlags := 1, nameIndex := 45, descriptorIndex := 46, attributes := #[] }, { accessFlags := 16, nameIndex := 552, descriptorIndex := 403, attributes := #[] }, { accessFlags := 16, nameIndex := 85, descriptorIndex := 86, attributes := #[] }, { accessFlags := 2, nameIndex := 217, descriptorIndex := 69, attributes := #[] }, { accessFlags := 2, nameIndex := 210, descriptorIndex := 211, attributes := #[] }] 1056 4 #[444, 48] #[{ accessFlags := 0, nameIndex := 17, descriptorIndex := 14, attributes := #[] }, { accessFlags := 0, nameIndex := 24, descriptorIndex := 25, attributes := #[] }, { accessFlags := 0, nameIndex := 75, descriptorIndex := 21, attributes := #[] }, { accessFlags := 0, nameIndex := 81, descriptorIndex := 82, attributes := #[] }, { accessFlags := 26, nameIndex := 13, descriptorIndex := 14, attributes := #[] }])
  fields := #[{ name := "value", type := (.array .byte), accessFlags := 0, slot := 0, constantValue := 0 }, { name := "coder", type := .byte, accessFlags := 0, slot := 1, constantValue := 0 }, { name := "maybeLatin1", type := .boolean, accessFlags := 0, slot := 2, constantValue := 0 }, { name := "count", type := .int, accessFlags := 0, slot := 3, constantValue := 0 }, { name := "EMPTYVALUE", type := (.array .byte), accessFlags := 26, slot := 0, constantValue := 0 }]
  methods := #[k14m0, k14m1, k14m2, k14m3, k14m4, k14m5, k14m6, k14m7, k14m8, k14m9]
  instanceTypes := #[(.array .byte), .byte, .boolean, .int]
  staticTypes := #[(.array .byte)]
  resolved := Array.replicate 609 none
  statics := none }

def pool15 : Array CpInfo := pool [(1, .methodref 2 3), (0, .class_ 4), (0, .nameAndType 5 6), (0, u "java/lang/AbstractStringBuilder"), (0, u "<init>"), (0, u "(I)V"), (11, .class_ 20), (1, u "java/lang/String"), (3, .class_ 26), (1, u "java/lang/StringBuilder"), (0, u "append"), (0, u "(Ljava/lang/String;)Ljava/lang/StringBuilder;"), (0, .methodref 2 30), (0, .nameAndType 27 31), (0, u "(Ljava/lang/String;)Ljava/lang/AbstractStringBuilder;"), (105, .methodref 18 138), (0, .nameAndType 5 139), (0, u "(Ljava/lang/StringBuilder;)V"), (5, u "()V"), (10, u "()I"), (186, .methodref 2 344), (0, .nameAndType 345 156), (0, u "length"), (3, .class_ 350), (0, u "java/lang/Appendable"), (0, .class_ 352), (0, u "java/io/Serializable"), (0, .class_ 354), (0, u "java/lang/Comparable"), (0, .class_ 356), (0, u "java/lang/CharSequence"), (0, u "serialVersionUID"), (0, u "J"), (40, u "toString"), (0, u "()Ljava/lang/String;")] 21

def k15c0 : Code := { maxStack := 2, maxLocals := 1, code := jdk_67_method_1_code, exceptionTable := #[], attributes := #[] }
def k15m0 : Method := { name := "<init>", desc := "()V", sig := { parameters := [], returnType := none }, accessFlags := 1, code := some k15c0 }
def k15c1 : Code := { maxStack := 2, maxLocals := 2, code := jdk_67_method_7_code, exceptionTable := #[], attributes := #[] }
def k15m1 : Method := { name := "append", desc := "(Ljava/lang/String;)Ljava/lang/StringBuilder;", sig := { parameters := [(.object "java/lang/String")], returnType := some (.object "java/lang/StringBuilder") }, accessFlags := 1, code := some k15c1 }
def k15c2 : Code := { maxStack := 3, maxLocals := 1, code := jdk_67_method_42_code, exceptionTable := #[], attributes := #[] }
def k15m2 : Method := { name := "toString", desc := "()Ljava/lang/String;", sig := { parameters := [], returnType := some (.object "java/lang/String") }, accessFlags := 1, code := some k15c2 }
def k15c3 : Code := { maxStack := 1, maxLocals := 1, code := jdk_67_method_93_code, exceptionTable := #[], attributes := #[] }
def k15m3 : Method := { name := "length", desc := "()I", sig := { parameters := [], returnType := some .int }, accessFlags := 4161, code := some k15c3 }
/-- java/lang/StringBuilder -/
def k15 : Class := { plain "java/lang/StringBuilder" (some 14) with
  accessFlags := 49
  interfaces := #[13, 2, 3, 4]
  cf := some (fileOf pool15 24 #[] #[{ accessFlags := 1, nameIndex := 5, descriptorIndex := 145, attributes := #[] }, { accessFlags := 1, nameIndex := 27, descriptorIndex := 28, attributes := #[] }, { accessFlags := 1, nameIndex := 399, descriptorIndex := 400, attributes := #[] }, { accessFlags := 4161, nameIndex := 345, descriptorIndex := 156, attributes := #[] }] 49 2 #[349, 351, 353, 355] #[{ accessFlags := 24, nameIndex := 357, descriptorIndex := 358, attributes := #[] }])
  fields := #[{ name := "serialVersionUID", type := .long, accessFlags := 24, slot := 0, constantValue := 0 }]
  methods := #[k15m0, k15m1, k15m2, k15m3]
  instanceTypes := #[(.array .byte), .byte, .boolean, .int]
  staticTypes := #[.long]
  resolved := Array.replicate 422 none
  statics := none }

def pool16 : Array CpInfo := pool [(2, .class_ 4), (1, u "java/lang/Object"), (0, u "<init>"), (0, u "()V"), (1, .class_ 10), (1, u "java/lang/System"), (0, u "allowSecurityManager"), (0, u "I"), (16, u "cons"), (0, u "Ljava/io/Console;"), (77, .class_ 110), (1, u "java/lang/System$CallersHolder"), (43, u "initialErrStream"), (0, u "Ljava/io/PrintStream;"), (19, u "security"), (0, u "Ljava/lang/SecurityManager;"), (31, .class_ 209), (0, u "java/lang/System$1"), (7, u "props"), (0, u "Ljava/util/Properties;"), (2, u "lineSeparator"), (0, u "Ljava/lang/String;"), (96, .class_ 321), (1, u "java/lang/System$LoggerFinder"), (5, .class_ 328), (0, u "java/lang/System$Logger"), (67, u "err"), (2, u "out"), (91, u "notSupportedJnuEncoding"), (15, u "in"), (17, u "initialIn"), (0, u "Ljava/io/InputStream;"), (35, u "bootLayer"), (0, u "Ljava/lang/ModuleLayer;"), (99, .class_ 664), (0, u "java/lang/System$2"), (9, u "NEVER"), (2, u "MAYBE"), (49, u "arraycopy"), (0, u "(Ljava/lang/Object;ILjava/lang/Object;II)V"), (72, .class_ 802), (0, u "java/lang/System$Logger$Level")] 31

def k16m0 : Method := { name := "<init>", desc := "()V", sig := { parameters := [], returnType := none }, accessFlags := 2, code := none }
def k16m1 : Method := { name := "arraycopy", desc := "(Ljava/lang/Object;ILjava/lang/Object;II)V", sig := { parameters := [(.object "java/lang/Object"), .int, (.object "java/lang/Object"), .int, .int], returnType := none }, accessFlags := 265, code := none }
/-- java/lang/System -/
def k16 : Class := { plain "java/lang/System" (some 0) with
  accessFlags := 49
  interfaces := #[]
  cf := some (fileOf pool16 8 #[.nestMembers #[319, 327, 801, 108, 663, 208]] #[{ accessFlags := 2, nameIndex := 5, descriptorIndex := 6, attributes := #[] }, { accessFlags := 265, nameIndex := 727, descriptorIndex := 728, attributes := #[] }] 49 2 #[] #[{ accessFlags := 25, nameIndex := 507, descriptorIndex := 526, attributes := #[] }, { accessFlags := 25, nameIndex := 399, descriptorIndex := 155, attributes := #[] }, { accessFlags := 25, nameIndex := 396, descriptorIndex := 155, attributes := #[] }, { accessFlags := 10, nameIndex := 525, descriptorIndex := 526, attributes := #[] }, { accessFlags := 26, nameIndex := 674, descriptorIndex := 12, attributes := #[] }, { accessFlags := 26, nameIndex := 677, descriptorIndex := 12, attributes := #[] }, { accessFlags := 10, nameIndex := 11, descriptorIndex := 12, attributes := #[] }, { accessFlags := 74, nameIndex := 175, descriptorIndex := 176, attributes := #[] }, { accessFlags := 10, nameIndex := 491, descriptorIndex := 222, attributes := #[] }, { accessFlags := 74, nameIndex := 29, descriptorIndex := 30, attributes := #[] }, { accessFlags := 74, nameIndex := 154, descriptorIndex := 155, attributes := #[] }, { accessFlags := 10, nameIndex := 217, descriptorIndex := 218, attributes := #[] }, { accessFlags := 10, nameIndex := 221, descriptorIndex := 222, attributes := #[] }, { accessFlags := 8, nameIndex := 562, descriptorIndex := 563, attributes := #[] }])
  fields := #[{ name := "in", type := (.object "java/io/InputStream"), accessFlags := 25, slot := 0, constantValue := 0 }, { name := "out", type := (.object "java/io/PrintStream"), accessFlags := 25, slot := 1, constantValue := 0 }, { name := "err", type := (.object "java/io/PrintStream"), accessFlags := 25, slot := 2, constantValue := 0 }, { name := "initialIn", type := (.object "java/io/InputStream"), accessFlags := 10, slot := 3, constantValue := 0 }, { name := "NEVER", type := .int, accessFlags := 26, slot := 4, constantValue := 0 }, { name := "MAYBE", type := .int, accessFlags := 26, slot := 5, constantValue := 0 }, { name := "allowSecurityManager", type := .int, accessFlags := 10, slot := 6, constantValue := 0 }, { name := "security", type := (.object "java/lang/SecurityManager"), accessFlags := 74, slot := 7, constantValue := 0 }, { name := "notSupportedJnuEncoding", type := (.object "java/lang/String"), accessFlags := 10, slot := 8, constantValue := 0 }, { name := "cons", type := (.object "java/io/Console"), accessFlags := 74, slot := 9, constantValue := 0 }, { name := "initialErrStream", type := (.object "java/io/PrintStream"), accessFlags := 74, slot := 10, constantValue := 0 }, { name := "props", type := (.object "java/util/Properties"), accessFlags := 10, slot := 11, constantValue := 0 }, { name := "lineSeparator", type := (.object "java/lang/String"), accessFlags := 10, slot := 12, constantValue := 0 }, { name := "bootLayer", type := (.object "java/lang/ModuleLayer"), accessFlags := 8, slot := 13, constantValue := 0 }]
  methods := #[k16m0, k16m1]
  instanceTypes := #[]
  staticTypes := #[(.object "java/io/InputStream"), (.object "java/io/PrintStream"), (.object "java/io/PrintStream"), (.object "java/io/InputStream"), .int, .int, .int, (.object "java/lang/SecurityManager"), (.object "java/lang/String"), (.object "java/io/Console"), (.object "java/io/PrintStream"), (.object "java/util/Properties"), (.object "java/lang/String"), (.object "java/lang/ModuleLayer")]
  resolved := Array.replicate 834 none
  statics := none }

def pool17 : Array CpInfo := pool [(2, .class_ 4), (1, u "java/lang/Object"), (0, u "<init>"), (0, u "()V"), (7, .class_ 16), (1, u "java/util/Arrays"), (57, .class_ 76), (1, u "java/util/Arrays$NaturalOrder"), (32, u "()Ljava/lang/Object;"), (3, .class_ 115), (1, u "java/util/Arrays$LegacyMergeSort"), (1, u "Z"), (10, .nameAndType 129 109), (0, u "clone"), (9, u "copyOfRange"), (10, .methodref 151 152), (0, .class_ 153), (0, .nameAndType 154 155), (0, u "java/lang/System"), (0, u "arraycopy"), (0, u "(Ljava/lang/Object;ILjava/lang/Object;II)V"), (146, u "copyOf"), (1, .methodref 305 306), (0, .class_ 307), (0, .nameAndType 308 309), (0, u "java/lang/Math"), (0, u "min"), (0, u "(II)I"), (0, .methodref 311 128), (0, .class_ 312), (0, u "[B"), (26, .methodref 14 340), (0, .nameAndType 341 342), (0, u "copyOfRangeByte"), (0, u "([BII)[B"), (0, .methodref 14 344), (0, .nameAndType 345 346), (0, u "checkLength"), (0, u "(II)V"), (28, .class_ 376), (0, u "java/util/Arrays$ArrayList"), (68, u "$assertionsDisabled"), (269, u "MIN_ARRAY_SORT_GRAN"), (0, u "I"), (2, u "INSERTIONSORT_THRESHOLD"), (149, u "([BI)[B"), (105, .class_ 976), (0, u "java/util/Arrays$ArrayItr")] 52

def k17m0 : Method := { name := "<init>", desc := "()V", sig := { parameters := [], returnType := none }, accessFlags := 2, code := none }
def k17c1 : Code := { maxStack := 6, maxLocals := 3, code := jdk_65_method_121_code, exceptionTable := #[], attributes := #[] }
def k17m1 : Method := { name := "copyOf", desc := "([BI)[B", sig := { parameters := [(.array .byte), .int], returnType := some (.array .byte) }, accessFlags := 9, code := some k17c1 }
def k17c2 : Code := { maxStack := 4, maxLocals := 2, code := jdk_65_method_131_code, exceptionTable := #[], attributes := #[] }
def k17m2 : Method := { name := "checkLength", desc := "(II)V", sig := { parameters := [.int, .int], returnType := none }, accessFlags := 10, code := some k17c2 }
def k17c3 : Code := { maxStack := 3, maxLocals := 3, code := jdk_65_method_132_code, exceptionTable := #[], attributes := #[] }
def k17m3 : Method := { name := "copyOfRange", desc := "([BII)[B", sig := { parameters := [(.array .byte), .int, .int], returnType := some (.array .byte) }, accessFlags := 9, code := some k17c3 }
def k17c4 : Code := { maxStack := 6, maxLocals := 5, code := jdk_65_method_133_code, exceptionTable := #[], attributes := #[] }
def k17m4 : Method := { name := "copyOfRangeByte", desc := "([BII)[B", sig := { parameters := [(.array .byte), .int, .int], returnType := some (.array .byte) }, accessFlags := 10, code := some k17c4 }
/-- java/util/Arrays -/
def k17 : Class := { plain "java/util/Arrays" (some 0) with
  accessFlags := 49
  interfaces := #[]
  cf := some (fileOf pool17 14 #[.nestMembers #[975, 375, 113, 74]] #[{ accessFlags := 2, nameIndex := 5, descriptorIndex := 6, attributes := #[] }, { accessFlags := 9, nameIndex := 302, descriptorIndex := 869, attributes := #[] }, { accessFlags := 10, nameIndex := 345, descriptorIndex := 346, attributes := #[] }, { accessFlags := 9, nameIndex := 139, descriptorIndex := 342, attributes := #[] }, { accessFlags := 10, nameIndex := 341, descriptorIndex := 342, attributes := #[] }] 49 2 #[] #[{ accessFlags := 26, nameIndex := 715, descriptorIndex := 716, attributes := #[] }, { accessFlags := 26, nameIndex := 719, descriptorIndex := 716, attributes := #[] }, { accessFlags := 4120, nameIndex := 445, descriptorIndex := 117, attributes := #[] }])
  fields := #[{ name := "MIN_ARRAY_SORT_GRAN", type := .int, accessFlags := 26, slot := 0, constantValue := 0 }, { name := "INSERTIONSORT_THRESHOLD", type := .int, accessFlags := 26, slot := 1, constantValue := 0 }, { name := "$assertionsDisabled", type := .boolean, accessFlags := 4120, slot := 2, constantValue := 0 }]
  methods := #[k17m0, k17m1, k17m2, k17m3, k17m4]
  instanceTypes := #[]
  staticTypes := #[.int, .int, .boolean]
  resolved := Array.replicate 1029 none
  statics := none }

def pool18 : Array CpInfo := pool [(1, .class_ 2), (0, u "java/lang/Math"), (1, .class_ 6), (1, u "java/lang/Object"), (0, u "<init>"), (0, u "()V"), (89, .class_ 100), (1, u "java/lang/Math$RandomNumberGeneratorHolder"), (71, u "negativeZeroFloatBits"), (0, u "J"), (2, u "negativeZeroDoubleBits"), (21, u "max"), (2, u "min"), (43, u "$assertionsDisabled"), (0, u "Z"), (88, u "(II)I"), (2, u "twoToTheDoubleScaleDown"), (0, u "D"), (4, u "twoToTheDoubleScaleUp"), (9, u "E"), (3, u "PI"), (2, u "TAU"), (2, u "DEGREES_TO_RADIANS"), (0, u "RADIANS_TO_DEGREES")] 94

def k18m0 : Method := { name := "<init>", desc := "()V", sig := { parameters := [], returnType := none }, accessFlags := 2, code := none }
def k18c1 : Code := { maxStack := 2, maxLocals := 2, code := jdk_29_method_65_code, exceptionTable := #[], attributes := #[] }
def k18m1 : Method := { name := "max", desc := "(II)I", sig := { parameters := [.int, .int], returnType := some .int }, accessFlags := 9, code := some k18c1 }
def k18c2 : Code := { maxStack := 2, maxLocals := 2, code := jdk_29_method_69_code, exceptionTable := #[], attributes := #[] }
def k18m2 : Method := { name := "min", desc := "(II)I", sig := { parameters := [.int, .int], returnType := some .int }, accessFlags := 9, code := some k18c2 }
/-- java/lang/Math -/
def k18 : Class := { plain "java/lang/Math" (some 0) with
  accessFlags := 49
  interfaces := #[]
  cf := some (fileOf pool18 1 #[.nestMembers #[98]] #[{ accessFlags := 2, nameIndex := 7, descriptorIndex := 8, attributes := #[] }, { accessFlags := 9, nameIndex := 198, descriptorIndex := 335, attributes := #[] }, { accessFlags := 9, nameIndex := 201, descriptorIndex := 335, attributes := #[] }] 49 4 #[] #[{ accessFlags := 25, nameIndex := 354, descriptorIndex := 339, attributes := #[] }, { accessFlags := 25, nameIndex := 358, descriptorIndex := 339, attributes := #[] }, { accessFlags := 25, nameIndex := 361, descriptorIndex := 339, attributes := #[] }, { accessFlags := 26, nameIndex := 364, descriptorIndex := 339, attributes := #[] }, { accessFlags := 26, nameIndex := 365, descriptorIndex := 339, attributes := #[] }, { accessFlags := 26, nameIndex := 172, descriptorIndex := 173, attributes := #[] }, { accessFlags := 26, nameIndex := 176, descriptorIndex := 173, attributes := #[] }, { accessFlags := 8, nameIndex := 344, descriptorIndex := 339, attributes := #[] }, { accessFlags := 8, nameIndex := 338, descriptorIndex := 339, attributes := #[] }, { accessFlags := 4120, nameIndex := 245, descriptorIndex := 246, attributes := #[] }])
  fields := #[{ name := "E", type := .double, accessFlags := 25, slot := 0, constantValue := 0 }, { name := "PI", type := .double, accessFlags := 25, slot := 1, constantValue := 0 }, { name := "TAU", type := .double, accessFlags := 25, slot := 2, constantValue := 0 }, { name := "DEGREES_TO_RADIANS", type := .double, accessFlags := 26, slot := 3, constantValue := 0 }, { name := "RADIANS_TO_DEGREES", type := .double, accessFlags := 26, slot := 4, constantValue := 0 }, { name := "negativeZeroFloatBits", type := .long, accessFlags := 26, slot := 5, constantValue := 0 }, { name := "negativeZeroDoubleBits", type := .long, accessFlags := 26, slot := 6, constantValue := 0 }, { name := "twoToTheDoubleScaleUp", type := .double, accessFlags := 8, slot := 7, constantValue := 0 }, { name := "twoToTheDoubleScaleDown", type := .double, accessFlags := 8, slot := 8, constantValue := 0 }, { name := "$assertionsDisabled", type := .boolean, accessFlags := 4120, slot := 9, constantValue := 0 }]
  methods := #[k18m0, k18m1, k18m2]
  instanceTypes := #[]
  staticTypes := #[.double, .double, .double, .double, .double, .long, .long, .double, .double, .boolean]
  resolved := Array.replicate 460 none
  statics := none }

def pool19 : Array CpInfo := pool [(9, u "<init>"), (6, .class_ 18), (1, u "java/lang/Object"), (0, u "()V"), (1, .class_ 23), (1, u "jdk/internal/util/ArraysSupport"), (0, u "LOG2_ARRAY_LONG_INDEX_SCALE"), (0, u "I"), (2, u "U"), (0, u "Ljdk/internal/misc/Unsafe;"), (8, u "BIG_ENDIAN"), (0, u "Z"), (8, u "LOG2_BYTE_BIT_SIZE"), (4, u "LOG2_ARRAY_INT_INDEX_SCALE"), (54, u "JLA"), (0, u "Ljdk/internal/access/JavaLangAccess;"), (11, u "LOG2_ARRAY_BOOLEAN_INDEX_SCALE"), (9, u "LOG2_ARRAY_BYTE_INDEX_SCALE"), (5, u "LOG2_ARRAY_CHAR_INDEX_SCALE"), (5, u "LOG2_ARRAY_SHORT_INDEX_SCALE"), (18, u "LOG2_ARRAY_FLOAT_INDEX_SCALE"), (24, u "LOG2_ARRAY_DOUBLE_INDEX_SCALE"), (6, .methodref 195 196), (0, .class_ 197), (0, .nameAndType 198 199), (0, u "java/lang/Math"), (0, u "max"), (0, u "(II)I"), (0, .integer 2147483639), (76, u "T_BOOLEAN"), (2, u "T_CHAR"), (1, u "T_FLOAT"), (1, u "T_DOUBLE"), (1, u "T_BYTE"), (1, u "T_SHORT"), (1, u "T_INT"), (1, u "T_LONG"), (1, u "SOFT_MAX_ARRAY_LENGTH"), (56, u "newLength"), (0, u "(III)I")] 25

def k19m0 : Method := { name := "<init>", desc := "()V", sig := { parameters := [], returnType := none }, accessFlags := 2, code := none }
def k19c1 : Code := { maxStack := 3, maxLocals := 4, code := jdk_48_method_27_code, exceptionTable := #[], attributes := #[] }
def k19m1 : Method := { name := "newLength", desc := "(III)I", sig := { parameters := [.int, .int, .int], returnType := some .int }, accessFlags := 9, code := some k19c1 }
/-- jdk/internal/util/ArraysSupport -/
def k19 : Class := { plain "jdk/internal/util/ArraysSupport" (some 0) with
  accessFlags := 33
  interfaces := #[]
  cf := some (fileOf pool19 21 #[] #[{ accessFlags := 2, nameIndex := 9, descriptorIndex := 19, attributes := #[] }, { accessFlags := 9, nameIndex := 351, descriptorIndex := 352, attributes := #[] }] 33 16 #[] #[{ accessFlags := 24, nameIndex := 28, descriptorIndex := 29, attributes := #[] }, { accessFlags := 26, nameIndex := 38, descriptorIndex := 39, attributes := #[] }, { accessFlags := 25, nameIndex := 121, descriptorIndex := 25, attributes := #[] }, { accessFlags := 25, nameIndex := 131, descriptorIndex := 25, attributes := #[] }, { accessFlags := 25, nameIndex := 137, descriptorIndex := 25, attributes := #[] }, { accessFlags := 25, nameIndex := 143, descriptorIndex := 25, attributes := #[] }, { accessFlags := 25, nameIndex := 53, descriptorIndex := 25, attributes := #[] }, { accessFlags := 25, nameIndex := 24, descriptorIndex := 25, attributes := #[] }, { accessFlags := 25, nameIndex := 162, descriptorIndex := 25, attributes := #[] }, { accessFlags := 25, nameIndex := 187, descriptorIndex := 25, attributes := #[] }, { accessFlags := 26, nameIndex := 48, descriptorIndex := 25, attributes := #[] }, { accessFlags := 25, nameIndex := 277, descriptorIndex := 25, attributes := #[] }, { accessFlags := 25, nameIndex := 280, descriptorIndex := 25, attributes := #[] }, { accessFlags := 25, nameIndex := 282, descriptorIndex := 25, attributes := #[] }, { accessFlags := 25, nameIndex := 284, descriptorIndex := 25, attributes := #[] }, { accessFlags := 25, nameIndex := 286, descriptorIndex := 25, attributes := #[] }, { accessFlags := 25, nameIndex := 288, descriptorIndex := 25, attributes := #[] }, { accessFlags := 25, nameIndex := 290, descriptorIndex := 25, attributes := #[] }, { accessFlags := 25, nameIndex := 292, descriptorIndex := 25, attributes := #[] }, { accessFlags := 26, nameIndex := 108, descriptorIndex := 109, attributes := #[] }, { accessFlags := 25, nameIndex := 294, descriptorIndex := 25, attributes := #[] }])
  fields := #[{ name := "U", type := (.object "jdk/internal/misc/Unsafe"), accessFlags := 24, slot := 0, constantValue := 0 }, { name := "BIG_ENDIAN", type := .boolean, accessFlags := 26, slot := 1, constantValue := 0 }, { name := "LOG2_ARRAY_BOOLEAN_INDEX_SCALE", type := .int, accessFlags := 25, slot := 2, constantValue := 0 }, { name := "LOG2_ARRAY_BYTE_INDEX_SCALE", type := .int, accessFlags := 25, slot := 3, constantValue := 0 }, { name := "LOG2_ARRAY_CHAR_INDEX_SCALE", type := .int, accessFlags := 25, slot := 4, constantValue := 0 }, { name := "LOG2_ARRAY_SHORT_INDEX_SCALE", type := .int, accessFlags := 25, slot := 5, constantValue := 0 }, { name := "LOG2_ARRAY_INT_INDEX_SCALE", type := .int, accessFlags := 25, slot := 6, constantValue := 0 }, { name := "LOG2_ARRAY_LONG_INDEX_SCALE", type := .int, accessFlags := 25, slot := 7, constantValue := 0 }, { name := "LOG2_ARRAY_FLOAT_INDEX_SCALE", type := .int, accessFlags := 25, slot := 8, constantValue := 0 }, { name := "LOG2_ARRAY_DOUBLE_INDEX_SCALE", type := .int, accessFlags := 25, slot := 9, constantValue := 0 }, { name := "LOG2_BYTE_BIT_SIZE", type := .int, accessFlags := 26, slot := 10, constantValue := 0 }, { name := "T_BOOLEAN", type := .int, accessFlags := 25, slot := 11, constantValue := 0 }, { name := "T_CHAR", type := .int, accessFlags := 25, slot := 12, constantValue := 0 }, { name := "T_FLOAT", type := .int, accessFlags := 25, slot := 13, constantValue := 0 }, { name := "T_DOUBLE", type := .int, accessFlags := 25, slot := 14, constantValue := 0 }, { name := "T_BYTE", type := .int, accessFlags := 25, slot := 15, constantValue := 0 }, { name := "T_SHORT", type := .int, accessFlags := 25, slot := 16, constantValue := 0 }, { name := "T_INT", type := .int, accessFlags := 25, slot := 17, constantValue := 0 }, { name := "T_LONG", type := .int, accessFlags := 25, slot := 18, constantValue := 0 }, { name := "JLA", type := (.object "jdk/internal/access/JavaLangAccess"), accessFlags := 26, slot := 19, constantValue := 0 }, { name := "SOFT_MAX_ARRAY_LENGTH", type := .int, accessFlags := 25, slot := 20, constantValue := 0 }]
  methods := #[k19m0, k19m1]
  instanceTypes := #[]
  staticTypes := #[(.object "jdk/internal/misc/Unsafe"), .boolean, .int, .int, .int, .int, .int, .int, .int, .int, .int, .int, .int, .int, .int, .int, .int, .int, .int, (.object "jdk/internal/access/JavaLangAccess"), .int]
  resolved := Array.replicate 378 none
  statics := none }

def pool20 : Array CpInfo := pool [(1, .class_ 2), (0, u "java/lang/Cloneable"), (0, .class_ 4), (0, u "java/lang/Object")] 2

/-- java/lang/Cloneable -/
def k20 : Class := { plain "java/lang/Cloneable" (some 0) with
  accessFlags := 1537
  interfaces := #[]
  cf := some (fileOf pool20 1 #[] #[] 1537 3 #[] #[])
  fields := #[]
  methods := #[]
  instanceTypes := #[]
  staticTypes := #[]
  resolved := Array.replicate 7 none
  statics := none }

def pool21 : Array CpInfo := pool [(2, .class_ 4), (1, u "java/lang/Object"), (0, u "<init>"), (0, u "()V"), (17, .class_ 26), (1, u "jdk/internal/util/Preconditions"), (28, .class_ 56), (0, u "jdk/internal/util/Preconditions$4"), (57, .class_ 115), (0, u "jdk/internal/util/Preconditions$1"), (7, u "SIOOBE_FORMATTER"), (0, u "Ljava/util/function/BiFunction;"), (0, .class_ 126), (0, u "jdk/internal/util/Preconditions$2"), (3, u "AIOOBE_FORMATTER"), (0, .class_ 132), (0, u "jdk/internal/util/Preconditions$3"), (3, u "IOOBE_FORMATTER")] 57

def k21m0 : Method := { name := "<init>", desc := "()V", sig := { parameters := [], returnType := none }, accessFlags := 1, code := none }
/-- jdk/internal/util/Preconditions -/
def k21 : Class := { plain "jdk/internal/util/Preconditions" (some 0) with
  accessFlags := 33
  interfaces := #[]
  cf := some (fileOf pool21 24 #[.nestMembers #[55, 131, 125, 114]] #[{ accessFlags := 1, nameIndex := 5, descriptorIndex := 6, attributes := #[] }] 33 2 #[] #[{ accessFlags := 25, nameIndex := 123, descriptorIndex := 124, attributes := #[] }, { accessFlags := 25, nameIndex := 130, descriptorIndex := 124, attributes := #[] }, { accessFlags := 25, nameIndex := 136, descriptorIndex := 124, attributes := #[] }])
  fields := #[{ name := "SIOOBE_FORMATTER", type := (.object "java/util/function/BiFunction"), accessFlags := 25, slot := 0, constantValue := 0 }, { name := "AIOOBE_FORMATTER", type := (.object "java/util/function/BiFunction"), accessFlags := 25, slot := 1, constantValue := 0 }, { name := "IOOBE_FORMATTER", type := (.object "java/util/function/BiFunction"), accessFlags := 25, slot := 2, constantValue := 0 }]
  methods := #[k21m0]
  instanceTypes := #[]
  staticTypes := #[(.object "java/util/function/BiFunction"), (.object "java/util/function/BiFunction"), (.object "java/util/function/BiFunction")]
  resolved := Array.replicate 194 none
  statics := some 1 }

/-- the primitive byte -/
def k22 : Class := { plain "byte" none with kind := .primitive 'B', accessFlags := 0x411 }
/-- [B -/
def k23 : Class := { plain "[B" (some 0) with kind := .array 22 .byte, interfaces := #[20, 2], accessFlags := 1041 }

/-- the primitive char -/
def k24 : Class := { plain "char" none with kind := .primitive 'C', accessFlags := 0x411 }
/-- [C -/
def k25 : Class := { plain "[C" (some 0) with kind := .array 24 .char, interfaces := #[20, 2], accessFlags := 1041 }

/-- the primitive int -/
def k26 : Class := { plain "int" none with kind := .primitive 'I', accessFlags := 0x411 }
/-- [I -/
def k27 : Class := { plain "[I" (some 0) with kind := .array 26 .int, interfaces := #[20, 2], accessFlags := 1041 }

def heap : Heap := #[{ cls := 7, slots := #[.long 0, .int 1, .null, .int 0, .null, .int 0, .int 0], vm := .statics 7 },
  { cls := 21, slots := #[.null, .null, .null], vm := .statics 21 }]
def classes : Array Class := #[k0, k1, k2, k3, k4, k5, k6, k7, k8, k9, k10, k11, k12, k13, k14, k15, k16, k17, k18, k19, k20, k21, k22, k23, k24, k25, k26, k27]
def interned : List (Array UInt16 × Addr) := []
def slotsUsed : Nat := 10
def theMethod : MethodId := ⟨1, 2⟩
def args0 : Array Value := #[.int 5, .int 6, .int 7, .int 8]
def aboutOver (below : List Frame) : State where
  vm := { classes := classes, interned := interned.toArray }
  heap := heap
  slotsUsed := slotsUsed
  threads := #[{ frames := .invoking theMethod args0 :: below }]
def below0 : List Frame := [.native { method := ⟨0, 0⟩, args := #[] }]
def about1 : State := aboutOver below0
def p0 : Program := .bare "" "" ""
def e0 : Env := launch0.env 0 0 0
theorem w_frames : about1.frames = Frame.invoking theMethod args0 :: below0 := rfl
set_option maxRecDepth 65536 in
theorem w_args : argsFit about1.vm theMethod args0 = true := by decide +kernel
set_option maxRecDepth 65536 in
theorem w_heap : heapFits about1 = true := by decide +kernel
set_option maxRecDepth 65536 in
theorem w_runnable : about1.curStatus? = some .runnable := by decide +kernel
set_option maxRecDepth 65536 in
theorem w_alone : about1.alone = true := by decide +kernel
set_option maxRecDepth 65536 in
theorem w_named : about1.methodNamed? x = some theMethod := by decide +kernel
set_option maxRecDepth 65536 in
theorem w_hears : about1.hears theMethod below0 = true := by decide +kernel
set_option maxRecDepth 65536 in
theorem w_ripe : about1.ripe theMethod args0 below0 = true := by decide +kernel
theorem w_running : about1.status = .running := rfl
set_option maxRecDepth 65536 in
theorem w_room : about1.hasRoom e0.platform room_1 = true :=
  launch0.hasRoom_least _ room_1 (by decide +kernel) (by decide +kernel) (by decide +kernel) (by decide +kernel) (by decide +kernel) (by decide +kernel)
theorem allAtoms_all (ts : List Jvm.Cond) (a : Array Jvm.Value) (st : Jvm.State) : (allAtoms ts).before a st = ts.all (fun c => c.before a st) := by
  induction ts with
  | nil => rfl
  | cons c t ih =>
    show (Jvm.Cond.and c (allAtoms t)).before a st = _
    rw [Jvm.Cond.before_and, ih, List.all_cons]
def words1 : List Jvm.Cond := Jvm.Cond.code x code maxLocals ret :: tables_1
/-- a 'code' word, met by the world's own term for the bytes: nothing is compared byte by byte -/
theorem code_word {y : MethodName} {bytes : ByteArray} {mx : Nat} {rt : Option FieldType} {a : Array Value} {s : State} {m : MethodId} {meth : Method} {c : Code} (h1 : s.methodNamed? y = some m) (h2 : s.vm.method? m = some meth) (h3 : meth.code = some c) (h4 : c.code = bytes)
    (h5 : (c.maxLocals == mx && c.exceptionTable.isEmpty && decide (c.maxStack ≤ mostOperands) && decide (meth.sig.returnType = rt) && !meth.locks && decide (parseMethodDescriptor y.desc = some meth.sig)) = true) : (Jvm.Cond.code y bytes mx rt).before a s = true := by
  simp only [Bool.and_eq_true, beq_iff_eq, Bool.not_eq_true', decide_eq_true_eq] at h5
  obtain ⟨⟨⟨⟨⟨g1, g2⟩, g3⟩, g4⟩, g5⟩, g6⟩ := h5
  simp [Cond.before, Cond.holds, Cond.value, h1, h2, h3, h4, g1, g2, g3, g4, g5, g6]
def isCode : Jvm.Cond → Bool
  | .code _ _ _ _ => true
  | _ => false
theorem all_split {L : List Jvm.Cond} {P : Jvm.Cond → Bool} (h1 : L.all (fun c => isCode c || P c) = true) (h2 : ∀ c ∈ L.filter isCode, P c = true) : L.all P = true := by
  refine List.all_eq_true.mpr fun c hc => ?_
  have h := List.all_eq_true.mp h1 c hc
  rcases Bool.eq_false_or_eq_true (isCode c) with hi | hi
  · exact h2 c (List.mem_filter.mpr ⟨hc, hi⟩)
  · simpa [hi] using h
set_option maxRecDepth 65536 in
theorem w_c0 : (Jvm.Cond.code x code maxLocals ret).before args0 about1 = true := code_word (m := ⟨1, 2⟩) (meth := k1m2) (c := k1c2) (by decide +kernel) rfl rfl rfl (by decide +kernel)
set_option maxRecDepth 65536 in
theorem w_c1 : (Jvm.Cond.code ({ cls := "com/example/beanloft/beanloft/naming/GlobalNameInModulePinLaw", name := "seg", desc := "(I)C" } : Jvm.MethodName) method_2_code (2 : Nat) (Option.some Jvm.ClassFile.FieldType.char)).before args0 about1 = true := code_word (m := ⟨1, 1⟩) (meth := k1m1) (c := k1c1) (by decide +kernel) rfl rfl rfl (by decide +kernel)
set_option maxRecDepth 65536 in
theorem w_c2 : (Jvm.Cond.code ({ cls := "java/lang/String", name := "<init>", desc := "([C)V" } : Jvm.MethodName) jdk_42_method_3_code (2 : Nat) (Option.none : Option Jvm.ClassFile.FieldType)).before args0 about1 = true := code_word (m := ⟨7, 1⟩) (meth := k7m1) (c := k7c1) (by decide +kernel) rfl rfl rfl (by decide +kernel)
set_option maxRecDepth 65536 in
theorem w_c3 : (Jvm.Cond.code ({ cls := "java/lang/String", name := "<init>", desc := "([CIILjava/lang/Void;)V" } : Jvm.MethodName) jdk_42_method_149_code (6 : Nat) (Option.none : Option Jvm.ClassFile.FieldType)).before args0 about1 = true := code_word (m := ⟨7, 11⟩) (meth := k7m11) (c := k7c11) (by decide +kernel) rfl rfl rfl (by decide +kernel)
set_option maxRecDepth 65536 in
theorem w_c4 : (Jvm.Cond.code ({ cls := "java/lang/Object", name := "<init>", desc := "()V" } : Jvm.MethodName) object_method_1_code (1 : Nat) (Option.none : Option Jvm.ClassFile.FieldType)).before args0 about1 = true := code_word (m := ⟨0, 0⟩) (meth := k0m0) (c := k0c0) (by decide +kernel) rfl rfl rfl (by decide +kernel)
set_option maxRecDepth 65536 in
theorem w_c5 : (Jvm.Cond.code ({ cls := "java/lang/StringUTF16", name := "compress", desc := "([CII)[B" } : Jvm.MethodName) jdk_52_method_16_code (6 : Nat) (Option.some (Jvm.ClassFile.FieldType.array Jvm.ClassFile.FieldType.byte))).before args0 about1 = true := code_word (m := ⟨8, 2⟩) (meth := k8m2) (c := k8c2) (by decide +kernel) rfl rfl rfl (by decide +kernel)
set_option maxRecDepth 65536 in
theorem w_c6 : (Jvm.Cond.code ({ cls := "java/lang/StringUTF16", name := "compress", desc := "([CI[BII)I" } : Jvm.MethodName) jdk_52_method_21_code (7 : Nat) (Option.some Jvm.ClassFile.FieldType.int)).before args0 about1 = true := code_word (m := ⟨8, 3⟩) (meth := k8m3) (c := k8c3) (by decide +kernel) rfl rfl rfl (by decide +kernel)
set_option maxRecDepth 65536 in
theorem w_c7 : (Jvm.Cond.code ({ cls := "java/lang/StringUTF16", name := "coderFromArrayLen", desc := "([BI)B" } : Jvm.MethodName) jdk_52_method_15_code (2 : Nat) (Option.some Jvm.ClassFile.FieldType.byte)).before args0 about1 = true := code_word (m := ⟨8, 1⟩) (meth := k8m1) (c := k8c1) (by decide +kernel) rfl rfl rfl (by decide +kernel)
set_option maxRecDepth 65536 in
theorem w_c8 : (Jvm.Cond.code ({ cls := "java/lang/String", name := "valueOf", desc := "(C)Ljava/lang/String;" } : Jvm.MethodName) jdk_42_method_139_code (1 : Nat) (Option.some (Jvm.ClassFile.FieldType.object "java/lang/String"))).before args0 about1 = true := code_word (m := ⟨7, 9⟩) (meth := k7m9) (c := k7c9) (by decide +kernel) rfl rfl rfl (by decide +kernel)
set_option maxRecDepth 65536 in
theorem w_c9 : (Jvm.Cond.code ({ cls := "java/lang/StringLatin1", name := "canEncode", desc := "(C)Z" } : Jvm.MethodName) jdk_43_method_3_code (1 : Nat) (Option.some Jvm.ClassFile.FieldType.boolean)).before args0 about1 = true := code_word (m := ⟨9, 1⟩) (meth := k9m1) (c := k9c1) (by decide +kernel) rfl rfl rfl (by decide +kernel)
set_option maxRecDepth 65536 in
theorem w_c10 : (Jvm.Cond.code ({ cls := "java/lang/StringLatin1", name := "toBytes", desc := "(C)[B" } : Jvm.MethodName) jdk_43_method_46_code (1 : Nat) (Option.some (Jvm.ClassFile.FieldType.array Jvm.ClassFile.FieldType.byte))).before args0 about1 = true := code_word (m := ⟨9, 5⟩) (meth := k9m5) (c := k9c5) (by decide +kernel) rfl rfl rfl (by decide +kernel)
set_option maxRecDepth 65536 in
theorem w_c11 : (Jvm.Cond.code ({ cls := "java/lang/String", name := "<init>", desc := "([BB)V" } : Jvm.MethodName) jdk_42_method_151_code (3 : Nat) (Option.none : Option Jvm.ClassFile.FieldType)).before args0 about1 = true := code_word (m := ⟨7, 13⟩) (meth := k7m13) (c := k7c13) (by decide +kernel) rfl rfl rfl (by decide +kernel)
set_option maxRecDepth 65536 in
theorem w_c12 : (Jvm.Cond.code ({ cls := "com/example/beanloft/beanloft/naming/GlobalName", name := "<init>", desc := "(Ljava/lang/String;Ljava/lang/String;Ljava/lang/String;Ljava/lang/String;)V" } : Jvm.MethodName) prog_9_method_1_code (5 : Nat) (Option.none : Option Jvm.ClassFile.FieldType)).before args0 about1 = true := code_word (m := ⟨11, 0⟩) (meth := k11m0) (c := k11c0) (by decide +kernel) rfl rfl rfl (by decide +kernel)
set_option maxRecDepth 65536 in
theorem w_c13 : (Jvm.Cond.code ({ cls := "java/lang/Record", name := "<init>", desc := "()V" } : Jvm.MethodName) jdk_30_method_1_code (1 : Nat) (Option.none : Option Jvm.ClassFile.FieldType)).before args0 about1 = true := code_word (m := ⟨10, 0⟩) (meth := k10m0) (c := k10c0) (by decide +kernel) rfl rfl rfl (by decide +kernel)
set_option maxRecDepth 65536 in
theorem w_c14 : (Jvm.Cond.code ({ cls := "java/util/Objects", name := "requireNonNull", desc := "(Ljava/lang/Object;Ljava/lang/String;)Ljava/lang/Object;" } : Jvm.MethodName) jdk_31_method_11_code (2 : Nat) (Option.some (Jvm.ClassFile.FieldType.object "java/lang/Object"))).before args0 about1 = true := code_word (m := ⟨12, 1⟩) (meth := k12m1) (c := k12c1) (by decide +kernel) rfl rfl rfl (by decide +kernel)
set_option maxRecDepth 65536 in
theorem w_c15 : (Jvm.Cond.code ({ cls := "com/example/beanloft/beanloft/naming/GlobalName", name := "checkSegment", desc := "(Ljava/lang/String;Ljava/lang/String;Ljava/lang/String;Ljava/lang/String;)V" } : Jvm.MethodName) prog_9_method_9_code (4 : Nat) (Option.none : Option Jvm.ClassFile.FieldType)).before args0 about1 = true := code_word (m := ⟨11, 3⟩) (meth := k11m3) (c := k11c3) (by decide +kernel) rfl rfl rfl (by decide +kernel)
set_option maxRecDepth 65536 in
theorem w_c16 : (Jvm.Cond.code ({ cls := "java/lang/String", name := "isEmpty", desc := "()Z" } : Jvm.MethodName) jdk_42_method_55_code (1 : Nat) (Option.some Jvm.ClassFile.FieldType.boolean)).before args0 about1 = true := code_word (m := ⟨7, 4⟩) (meth := k7m4) (c := k7c4) (by decide +kernel) rfl rfl rfl (by decide +kernel)
set_option maxRecDepth 65536 in
theorem w_c17 : (Jvm.Cond.code ({ cls := "java/lang/String", name := "contains", desc := "(Ljava/lang/CharSequence;)Z" } : Jvm.MethodName) jdk_42_method_97_code (2 : Nat) (Option.some Jvm.ClassFile.FieldType.boolean)).before args0 about1 = true := code_word (m := ⟨7, 7⟩) (meth := k7m7) (c := k7c7) (by decide +kernel) rfl rfl rfl (by decide +kernel)
set_option maxRecDepth 65536 in
theorem w_c18 : (Jvm.Cond.code ({ cls := "java/lang/String", name := "toString", desc := "()Ljava/lang/String;" } : Jvm.MethodName) jdk_42_method_126_code (1 : Nat) (Option.some (Jvm.ClassFile.FieldType.object "java/lang/String"))).before args0 about1 = true := code_word (m := ⟨7, 8⟩) (meth := k7m8) (c := k7c8) (by decide +kernel) rfl rfl rfl (by decide +kernel)
set_option maxRecDepth 65536 in
theorem w_c19 : (Jvm.Cond.code ({ cls := "java/lang/String", name := "indexOf", desc := "(Ljava/lang/String;)I" } : Jvm.MethodName) jdk_42_method_84_code (3 : Nat) (Option.some Jvm.ClassFile.FieldType.int)).before args0 about1 = true := code_word (m := ⟨7, 6⟩) (meth := k7m6) (c := k7c6) (by decide +kernel) rfl rfl rfl (by decide +kernel)
set_option maxRecDepth 65536 in
theorem w_c20 : (Jvm.Cond.code ({ cls := "java/lang/String", name := "coder", desc := "()B" } : Jvm.MethodName) jdk_42_method_152_code (1 : Nat) (Option.some Jvm.ClassFile.FieldType.byte)).before args0 about1 = true := code_word (m := ⟨7, 14⟩) (meth := k7m14) (c := k7c14) (by decide +kernel) rfl rfl rfl (by decide +kernel)
set_option maxRecDepth 65536 in
theorem w_c21 : (Jvm.Cond.code ({ cls := "java/lang/String", name := "isLatin1", desc := "()Z" } : Jvm.MethodName) jdk_42_method_154_code (1 : Nat) (Option.some Jvm.ClassFile.FieldType.boolean)).before args0 about1 = true := code_word (m := ⟨7, 15⟩) (meth := k7m15) (c := k7c15) (by decide +kernel) rfl rfl rfl (by decide +kernel)
set_option maxRecDepth 65536 in
theorem w_c22 : (Jvm.Cond.code ({ cls := "java/lang/StringLatin1", name := "indexOf", desc := "([B[B)I" } : Jvm.MethodName) jdk_43_method_24_code (2 : Nat) (Option.some Jvm.ClassFile.FieldType.int)).before args0 about1 = true := code_word (m := ⟨9, 3⟩) (meth := k9m3) (c := k9c3) (by decide +kernel) rfl rfl rfl (by decide +kernel)
set_option maxRecDepth 65536 in
theorem w_c23 : (Jvm.Cond.code ({ cls := "java/lang/StringLatin1", name := "indexOf", desc := "([BI[BII)I" } : Jvm.MethodName) jdk_43_method_25_code (11 : Nat) (Option.some Jvm.ClassFile.FieldType.int)).before args0 about1 = true := code_word (m := ⟨9, 4⟩) (meth := k9m4) (c := k9c4) (by decide +kernel) rfl rfl rfl (by decide +kernel)
set_option maxRecDepth 65536 in
theorem w_c24 : (Jvm.Cond.code ({ cls := "com/example/beanloft/beanloft/naming/GlobalName", name := "inModule", desc := "()Ljava/lang/String;" } : Jvm.MethodName) prog_9_method_6_code (1 : Nat) (Option.some (Jvm.ClassFile.FieldType.object "java/lang/String"))).before args0 about1 = true := code_word (m := ⟨11, 1⟩) (meth := k11m1) (c := k11c1) (by decide +kernel) rfl rfl rfl (by decide +kernel)
set_option maxRecDepth 65536 in
theorem w_c25 : (Jvm.Cond.code ({ cls := "java/lang/StringBuilder", name := "<init>", desc := "()V" } : Jvm.MethodName) jdk_67_method_1_code (1 : Nat) (Option.none : Option Jvm.ClassFile.FieldType)).before args0 about1 = true := code_word (m := ⟨15, 0⟩) (meth := k15m0) (c := k15c0) (by decide +kernel) rfl rfl rfl (by decide +kernel)
set_option maxRecDepth 65536 in
theorem w_c26 : (Jvm.Cond.code ({ cls := "java/lang/AbstractStringBuilder", name := "<init>", desc := "(I)V" } : Jvm.MethodName) jdk_68_method_2_code (2 : Nat) (Option.none : Option Jvm.ClassFile.FieldType)).before args0 about1 = true := code_word (m := ⟨14, 1⟩) (meth := k14m1) (c := k14c1) (by decide +kernel) rfl rfl rfl (by decide +kernel)
set_option maxRecDepth 65536 in
theorem w_c27 : (Jvm.Cond.code ({ cls := "java/lang/StringBuilder", name := "append", desc := "(Ljava/lang/String;)Ljava/lang/StringBuilder;" } : Jvm.MethodName) jdk_67_method_7_code (2 : Nat) (Option.some (Jvm.ClassFile.FieldType.object "java/lang/StringBuilder"))).before args0 about1 = true := code_word (m := ⟨15, 1⟩) (meth := k15m1) (c := k15c1) (by decide +kernel) rfl rfl rfl (by decide +kernel)
set_option maxRecDepth 65536 in
theorem w_c28 : (Jvm.Cond.code ({ cls := "java/lang/AbstractStringBuilder", name := "append", desc := "(Ljava/lang/String;)Ljava/lang/AbstractStringBuilder;" } : Jvm.MethodName) jdk_68_method_22_code (3 : Nat) (Option.some (Jvm.ClassFile.FieldType.object "java/lang/AbstractStringBuilder"))).before args0 about1 = true := code_word (m := ⟨14, 5⟩) (meth := k14m5) (c := k14c5) (by decide +kernel) rfl rfl rfl (by decide +kernel)
set_option maxRecDepth 65536 in
theorem w_c29 : (Jvm.Cond.code ({ cls := "java/lang/String", name := "length", desc := "()I" } : Jvm.MethodName) jdk_42_method_54_code (1 : Nat) (Option.some Jvm.ClassFile.FieldType.int)).before args0 about1 = true := code_word (m := ⟨7, 3⟩) (meth := k7m3) (c := k7c3) (by decide +kernel) rfl rfl rfl (by decide +kernel)
set_option maxRecDepth 65536 in
theorem w_c30 : (Jvm.Cond.code ({ cls := "java/lang/AbstractStringBuilder", name := "ensureCapacityInternal", desc := "(I)V" } : Jvm.MethodName) jdk_68_method_9_code (3 : Nat) (Option.none : Option Jvm.ClassFile.FieldType)).before args0 about1 = true := code_word (m := ⟨14, 3⟩) (meth := k14m3) (c := k14c3) (by decide +kernel) rfl rfl rfl (by decide +kernel)
set_option maxRecDepth 65536 in
theorem w_c31 : (Jvm.Cond.code ({ cls := "java/lang/AbstractStringBuilder", name := "putStringAt", desc := "(ILjava/lang/String;)V" } : Jvm.MethodName) jdk_68_method_73_code (3 : Nat) (Option.none : Option Jvm.ClassFile.FieldType)).before args0 about1 = true := code_word (m := ⟨14, 9⟩) (meth := k14m9) (c := k14c9) (by decide +kernel) rfl rfl rfl (by decide +kernel)
set_option maxRecDepth 65536 in
theorem w_c32 : (Jvm.Cond.code ({ cls := "java/lang/AbstractStringBuilder", name := "inflateIfNeededFor", desc := "(Ljava/lang/String;)V" } : Jvm.MethodName) jdk_68_method_71_code (2 : Nat) (Option.none : Option Jvm.ClassFile.FieldType)).before args0 about1 = true := code_word (m := ⟨14, 8⟩) (meth := k14m8) (c := k14c8) (by decide +kernel) rfl rfl rfl (by decide +kernel)
set_option maxRecDepth 65536 in
theorem w_c33 : (Jvm.Cond.code ({ cls := "java/lang/String", name := "getBytes", desc := "([BIB)V" } : Jvm.MethodName) jdk_42_method_147_code (4 : Nat) (Option.none : Option Jvm.ClassFile.FieldType)).before args0 about1 = true := code_word (m := ⟨7, 10⟩) (meth := k7m10) (c := k7c10) (by decide +kernel) rfl rfl rfl (by decide +kernel)
set_option maxRecDepth 65536 in
theorem w_c34 : (Jvm.Cond.code ({ cls := "com/example/beanloft/beanloft/naming/GlobalName", name := "viewSuffix", desc := "()Ljava/lang/String;" } : Jvm.MethodName) prog_9_method_8_code (1 : Nat) (Option.some (Jvm.ClassFile.FieldType.object "java/lang/String"))).before args0 about1 = true := code_word (m := ⟨11, 2⟩) (meth := k11m2) (c := k11c2) (by decide +kernel) rfl rfl rfl (by decide +kernel)
set_option maxRecDepth 65536 in
theorem w_c35 : (Jvm.Cond.code ({ cls := "java/lang/StringBuilder", name := "toString", desc := "()Ljava/lang/String;" } : Jvm.MethodName) jdk_67_method_42_code (1 : Nat) (Option.some (Jvm.ClassFile.FieldType.object "java/lang/String"))).before args0 about1 = true := code_word (m := ⟨15, 2⟩) (meth := k15m2) (c := k15c2) (by decide +kernel) rfl rfl rfl (by decide +kernel)
set_option maxRecDepth 65536 in
theorem w_c36 : (Jvm.Cond.code ({ cls := "java/lang/String", name := "<init>", desc := "(Ljava/lang/StringBuilder;)V" } : Jvm.MethodName) jdk_42_method_53_code (2 : Nat) (Option.none : Option Jvm.ClassFile.FieldType)).before args0 about1 = true := code_word (m := ⟨7, 2⟩) (meth := k7m2) (c := k7c2) (by decide +kernel) rfl rfl rfl (by decide +kernel)
set_option maxRecDepth 65536 in
theorem w_c37 : (Jvm.Cond.code ({ cls := "java/lang/String", name := "<init>", desc := "(Ljava/lang/AbstractStringBuilder;Ljava/lang/Void;)V" } : Jvm.MethodName) jdk_42_method_150_code (5 : Nat) (Option.none : Option Jvm.ClassFile.FieldType)).before args0 about1 = true := code_word (m := ⟨7, 12⟩) (meth := k7m12) (c := k7c12) (by decide +kernel) rfl rfl rfl (by decide +kernel)
set_option maxRecDepth 65536 in
theorem w_c38 : (Jvm.Cond.code ({ cls := "java/lang/AbstractStringBuilder", name := "getValue", desc := "()[B" } : Jvm.MethodName) jdk_68_method_64_code (1 : Nat) (Option.some (Jvm.ClassFile.FieldType.array Jvm.ClassFile.FieldType.byte))).before args0 about1 = true := code_word (m := ⟨14, 6⟩) (meth := k14m6) (c := k14c6) (by decide +kernel) rfl rfl rfl (by decide +kernel)
set_option maxRecDepth 65536 in
theorem w_c39 : (Jvm.Cond.code ({ cls := "java/lang/StringBuilder", name := "length", desc := "()I" } : Jvm.MethodName) jdk_67_method_93_code (1 : Nat) (Option.some Jvm.ClassFile.FieldType.int)).before args0 about1 = true := code_word (m := ⟨15, 3⟩) (meth := k15m3) (c := k15c3) (by decide +kernel) rfl rfl rfl (by decide +kernel)
set_option maxRecDepth 65536 in
theorem w_c40 : (Jvm.Cond.code ({ cls := "java/lang/AbstractStringBuilder", name := "length", desc := "()I" } : Jvm.MethodName) jdk_68_method_6_code (1 : Nat) (Option.some Jvm.ClassFile.FieldType.int)).before args0 about1 = true := code_word (m := ⟨14, 2⟩) (meth := k14m2) (c := k14c2) (by decide +kernel) rfl rfl rfl (by decide +kernel)
set_option maxRecDepth 65536 in
theorem w_c41 : (Jvm.Cond.code ({ cls := "java/lang/AbstractStringBuilder", name := "isLatin1", desc := "()Z" } : Jvm.MethodName) jdk_68_method_68_code (1 : Nat) (Option.some Jvm.ClassFile.FieldType.boolean)).before args0 about1 = true := code_word (m := ⟨14, 7⟩) (meth := k14m7) (c := k14c7) (by decide +kernel) rfl rfl rfl (by decide +kernel)
set_option maxRecDepth 65536 in
theorem w_c42 : (Jvm.Cond.code ({ cls := "java/util/Arrays", name := "copyOfRange", desc := "([BII)[B" } : Jvm.MethodName) jdk_65_method_132_code (3 : Nat) (Option.some (Jvm.ClassFile.FieldType.array Jvm.ClassFile.FieldType.byte))).before args0 about1 = true := code_word (m := ⟨17, 3⟩) (meth := k17m3) (c := k17c3) (by decide +kernel) rfl rfl rfl (by decide +kernel)
set_option maxRecDepth 65536 in
theorem w_c43 : (Jvm.Cond.code ({ cls := "java/util/Arrays", name := "copyOfRangeByte", desc := "([BII)[B" } : Jvm.MethodName) jdk_65_method_133_code (5 : Nat) (Option.some (Jvm.ClassFile.FieldType.array Jvm.ClassFile.FieldType.byte))).before args0 about1 = true := code_word (m := ⟨17, 4⟩) (meth := k17m4) (c := k17c4) (by decide +kernel) rfl rfl rfl (by decide +kernel)
set_option maxRecDepth 65536 in
theorem w_c44 : (Jvm.Cond.code ({ cls := "java/util/Arrays", name := "checkLength", desc := "(II)V" } : Jvm.MethodName) jdk_65_method_131_code (2 : Nat) (Option.none : Option Jvm.ClassFile.FieldType)).before args0 about1 = true := code_word (m := ⟨17, 2⟩) (meth := k17m2) (c := k17c2) (by decide +kernel) rfl rfl rfl (by decide +kernel)
set_option maxRecDepth 65536 in
theorem w_c45 : (Jvm.Cond.code ({ cls := "java/lang/Math", name := "min", desc := "(II)I" } : Jvm.MethodName) jdk_29_method_69_code (2 : Nat) (Option.some Jvm.ClassFile.FieldType.int)).before args0 about1 = true := code_word (m := ⟨18, 2⟩) (meth := k18m2) (c := k18c2) (by decide +kernel) rfl rfl rfl (by decide +kernel)
set_option maxRecDepth 65536 in
theorem w_c46 : (Jvm.Cond.code ({ cls := "java/lang/String", name := "equals", desc := "(Ljava/lang/Object;)Z" } : Jvm.MethodName) jdk_42_method_66_code (3 : Nat) (Option.some Jvm.ClassFile.FieldType.boolean)).before args0 about1 = true := code_word (m := ⟨7, 5⟩) (meth := k7m5) (c := k7c5) (by decide +kernel) rfl rfl rfl (by decide +kernel)
set_option maxRecDepth 65536 in
theorem w_c47 : (Jvm.Cond.code ({ cls := "java/lang/StringLatin1", name := "equals", desc := "([B[B)Z" } : Jvm.MethodName) jdk_43_method_13_code (3 : Nat) (Option.some Jvm.ClassFile.FieldType.boolean)).before args0 about1 = true := code_word (m := ⟨9, 2⟩) (meth := k9m2) (c := k9c2) (by decide +kernel) rfl rfl rfl (by decide +kernel)
set_option maxRecDepth 65536 in
theorem w_c48 : (Jvm.Cond.code ({ cls := "java/lang/AbstractStringBuilder", name := "newCapacity", desc := "(I)I" } : Jvm.MethodName) jdk_68_method_10_code (6 : Nat) (Option.some Jvm.ClassFile.FieldType.int)).before args0 about1 = true := code_word (m := ⟨14, 4⟩) (meth := k14m4) (c := k14c4) (by decide +kernel) rfl rfl rfl (by decide +kernel)
set_option maxRecDepth 65536 in
theorem w_c49 : (Jvm.Cond.code ({ cls := "jdk/internal/util/ArraysSupport", name := "newLength", desc := "(III)I" } : Jvm.MethodName) jdk_48_method_27_code (4 : Nat) (Option.some Jvm.ClassFile.FieldType.int)).before args0 about1 = true := code_word (m := ⟨19, 1⟩) (meth := k19m1) (c := k19c1) (by decide +kernel) rfl rfl rfl (by decide +kernel)
set_option maxRecDepth 65536 in
theorem w_c50 : (Jvm.Cond.code ({ cls := "java/lang/Math", name := "max", desc := "(II)I" } : Jvm.MethodName) jdk_29_method_65_code (2 : Nat) (Option.some Jvm.ClassFile.FieldType.int)).before args0 about1 = true := code_word (m := ⟨18, 1⟩) (meth := k18m1) (c := k18c1) (by decide +kernel) rfl rfl rfl (by decide +kernel)
set_option maxRecDepth 65536 in
theorem w_c51 : (Jvm.Cond.code ({ cls := "java/util/Arrays", name := "copyOf", desc := "([BI)[B" } : Jvm.MethodName) jdk_65_method_121_code (3 : Nat) (Option.some (Jvm.ClassFile.FieldType.array Jvm.ClassFile.FieldType.byte))).before args0 about1 = true := code_word (m := ⟨17, 1⟩) (meth := k17m1) (c := k17c1) (by decide +kernel) rfl rfl rfl (by decide +kernel)
def codes1 : List Jvm.Cond := [Jvm.Cond.code x code maxLocals ret, Jvm.Cond.code ({ cls := "com/example/beanloft/beanloft/naming/GlobalNameInModulePinLaw", name := "seg", desc := "(I)C" } : Jvm.MethodName) method_2_code (2 : Nat) (Option.some Jvm.ClassFile.FieldType.char), Jvm.Cond.code ({ cls := "java/lang/String", name := "<init>", desc := "([C)V" } : Jvm.MethodName) jdk_42_method_3_code (2 : Nat) (Option.none : Option Jvm.ClassFile.FieldType), Jvm.Cond.code ({ cls := "java/lang/String", name := "<init>", desc := "([CIILjava/lang/Void;)V" } : Jvm.MethodName) jdk_42_method_149_code (6 : Nat) (Option.none : Option Jvm.ClassFile.FieldType), Jvm.Cond.code ({ cls := "java/lang/Object", name := "<init>", desc := "()V" } : Jvm.MethodName) object_method_1_code (1 : Nat) (Option.none : Option Jvm.ClassFile.FieldType), Jvm.Cond.code ({ cls := "java/lang/StringUTF16", name := "compress", desc := "([CII)[B" } : Jvm.MethodName) jdk_52_method_16_code (6 : Nat) (Option.some (Jvm.ClassFile.FieldType.array Jvm.ClassFile.FieldType.byte)), Jvm.Cond.code ({ cls := "java/lang/StringUTF16", name := "compress", desc := "([CI[BII)I" } : Jvm.MethodName) jdk_52_method_21_code (7 : Nat) (Option.some Jvm.ClassFile.FieldType.int), Jvm.Cond.code ({ cls := "java/lang/StringUTF16", name := "coderFromArrayLen", desc := "([BI)B" } : Jvm.MethodName) jdk_52_method_15_code (2 : Nat) (Option.some Jvm.ClassFile.FieldType.byte), Jvm.Cond.code ({ cls := "java/lang/String", name := "valueOf", desc := "(C)Ljava/lang/String;" } : Jvm.MethodName) jdk_42_method_139_code (1 : Nat) (Option.some (Jvm.ClassFile.FieldType.object "java/lang/String")), Jvm.Cond.code ({ cls := "java/lang/StringLatin1", name := "canEncode", desc := "(C)Z" } : Jvm.MethodName) jdk_43_method_3_code (1 : Nat) (Option.some Jvm.ClassFile.FieldType.boolean), Jvm.Cond.code ({ cls := "java/lang/StringLatin1", name := "toBytes", desc := "(C)[B" } : Jvm.MethodName) jdk_43_method_46_code (1 : Nat) (Option.some (Jvm.ClassFile.FieldType.array Jvm.ClassFile.FieldType.byte)), Jvm.Cond.code ({ cls := "java/lang/String", name := "<init>", desc := "([BB)V" } : Jvm.MethodName) jdk_42_method_151_code (3 : Nat) (Option.none : Option Jvm.ClassFile.FieldType), Jvm.Cond.code ({ cls := "com/example/beanloft/beanloft/naming/GlobalName", name := "<init>", desc := "(Ljava/lang/String;Ljava/lang/String;Ljava/lang/String;Ljava/lang/String;)V" } : Jvm.MethodName) prog_9_method_1_code (5 : Nat) (Option.none : Option Jvm.ClassFile.FieldType), Jvm.Cond.code ({ cls := "java/lang/Record", name := "<init>", desc := "()V" } : Jvm.MethodName) jdk_30_method_1_code (1 : Nat) (Option.none : Option Jvm.ClassFile.FieldType), Jvm.Cond.code ({ cls := "java/util/Objects", name := "requireNonNull", desc := "(Ljava/lang/Object;Ljava/lang/String;)Ljava/lang/Object;" } : Jvm.MethodName) jdk_31_method_11_code (2 : Nat) (Option.some (Jvm.ClassFile.FieldType.object "java/lang/Object")), Jvm.Cond.code ({ cls := "com/example/beanloft/beanloft/naming/GlobalName", name := "checkSegment", desc := "(Ljava/lang/String;Ljava/lang/String;Ljava/lang/String;Ljava/lang/String;)V" } : Jvm.MethodName) prog_9_method_9_code (4 : Nat) (Option.none : Option Jvm.ClassFile.FieldType), Jvm.Cond.code ({ cls := "java/lang/String", name := "isEmpty", desc := "()Z" } : Jvm.MethodName) jdk_42_method_55_code (1 : Nat) (Option.some Jvm.ClassFile.FieldType.boolean), Jvm.Cond.code ({ cls := "java/lang/String", name := "contains", desc := "(Ljava/lang/CharSequence;)Z" } : Jvm.MethodName) jdk_42_method_97_code (2 : Nat) (Option.some Jvm.ClassFile.FieldType.boolean), Jvm.Cond.code ({ cls := "java/lang/String", name := "toString", desc := "()Ljava/lang/String;" } : Jvm.MethodName) jdk_42_method_126_code (1 : Nat) (Option.some (Jvm.ClassFile.FieldType.object "java/lang/String")), Jvm.Cond.code ({ cls := "java/lang/String", name := "indexOf", desc := "(Ljava/lang/String;)I" } : Jvm.MethodName) jdk_42_method_84_code (3 : Nat) (Option.some Jvm.ClassFile.FieldType.int), Jvm.Cond.code ({ cls := "java/lang/String", name := "coder", desc := "()B" } : Jvm.MethodName) jdk_42_method_152_code (1 : Nat) (Option.some Jvm.ClassFile.FieldType.byte), Jvm.Cond.code ({ cls := "java/lang/String", name := "isLatin1", desc := "()Z" } : Jvm.MethodName) jdk_42_method_154_code (1 : Nat) (Option.some Jvm.ClassFile.FieldType.boolean), Jvm.Cond.code ({ cls := "java/lang/StringLatin1", name := "indexOf", desc := "([B[B)I" } : Jvm.MethodName) jdk_43_method_24_code (2 : Nat) (Option.some Jvm.ClassFile.FieldType.int), Jvm.Cond.code ({ cls := "java/lang/StringLatin1", name := "indexOf", desc := "([BI[BII)I" } : Jvm.MethodName) jdk_43_method_25_code (11 : Nat) (Option.some Jvm.ClassFile.FieldType.int), Jvm.Cond.code ({ cls := "com/example/beanloft/beanloft/naming/GlobalName", name := "inModule", desc := "()Ljava/lang/String;" } : Jvm.MethodName) prog_9_method_6_code (1 : Nat) (Option.some (Jvm.ClassFile.FieldType.object "java/lang/String")), Jvm.Cond.code ({ cls := "java/lang/StringBuilder", name := "<init>", desc := "()V" } : Jvm.MethodName) jdk_67_method_1_code (1 : Nat) (Option.none : Option Jvm.ClassFile.FieldType), Jvm.Cond.code ({ cls := "java/lang/AbstractStringBuilder", name := "<init>", desc := "(I)V" } : Jvm.MethodName) jdk_68_method_2_code (2 : Nat) (Option.none : Option Jvm.ClassFile.FieldType), Jvm.Cond.code ({ cls := "java/lang/StringBuilder", name := "append", desc := "(Ljava/lang/String;)Ljava/lang/StringBuilder;" } : Jvm.MethodName) jdk_67_method_7_code (2 : Nat) (Option.some (Jvm.ClassFile.FieldType.object "java/lang/StringBuilder")), Jvm.Cond.code ({ cls := "java/lang/AbstractStringBuilder", name := "append", desc := "(Ljava/lang/String;)Ljava/lang/AbstractStringBuilder;" } : Jvm.MethodName) jdk_68_method_22_code (3 : Nat) (Option.some (Jvm.ClassFile.FieldType.object "java/lang/AbstractStringBuilder")), Jvm.Cond.code ({ cls := "java/lang/String", name := "length", desc := "()I" } : Jvm.MethodName) jdk_42_method_54_code (1 : Nat) (Option.some Jvm.ClassFile.FieldType.int), Jvm.Cond.code ({ cls := "java/lang/AbstractStringBuilder", name := "ensureCapacityInternal", desc := "(I)V" } : Jvm.MethodName) jdk_68_method_9_code (3 : Nat) (Option.none : Option Jvm.ClassFile.FieldType), Jvm.Cond.code ({ cls := "java/lang/AbstractStringBuilder", name := "putStringAt", desc := "(ILjava/lang/String;)V" } : Jvm.MethodName) jdk_68_method_73_code (3 : Nat) (Option.none : Option Jvm.ClassFile.FieldType), Jvm.Cond.code ({ cls := "java/lang/AbstractStringBuilder", name := "inflateIfNeededFor", desc := "(Ljava/lang/String;)V" } : Jvm.MethodName) jdk_68_method_71_code (2 : Nat) (Option.none : Option Jvm.ClassFile.FieldType), Jvm.Cond.code ({ cls := "java/lang/String", name := "getBytes", desc := "([BIB)V" } : Jvm.MethodName) jdk_42_method_147_code (4 : Nat) (Option.none : Option Jvm.ClassFile.FieldType), Jvm.Cond.code ({ cls := "com/example/beanloft/beanloft/naming/GlobalName", name := "viewSuffix", desc := "()Ljava/lang/String;" } : Jvm.MethodName) prog_9_method_8_code (1 : Nat) (Option.some (Jvm.ClassFile.FieldType.object "java/lang/String")), Jvm.Cond.code ({ cls := "java/lang/StringBuilder", name := "toString", desc := "()Ljava/lang/String;" } : Jvm.MethodName) jdk_67_method_42_code (1 : Nat) (Option.some (Jvm.ClassFile.FieldType.object "java/lang/String")), Jvm.Cond.code ({ cls := "java/lang/String", name := "<init>", desc := "(Ljava/lang/StringBuilder;)V" } : Jvm.MethodName) jdk_42_method_53_code (2 : Nat) (Option.none : Option Jvm.ClassFile.FieldType), Jvm.Cond.code ({ cls := "java/lang/String", name := "<init>", desc := "(Ljava/lang/AbstractStringBuilder;Ljava/lang/Void;)V" } : Jvm.MethodName) jdk_42_method_150_code (5 : Nat) (Option.none : Option Jvm.ClassFile.FieldType), Jvm.Cond.code ({ cls := "java/lang/AbstractStringBuilder", name := "getValue", desc := "()[B" } : Jvm.MethodName) jdk_68_method_64_code (1 : Nat) (Option.some (Jvm.ClassFile.FieldType.array Jvm.ClassFile.FieldType.byte)), Jvm.Cond.code ({ cls := "java/lang/StringBuilder", name := "length", desc := "()I" } : Jvm.MethodName) jdk_67_method_93_code (1 : Nat) (Option.some Jvm.ClassFile.FieldType.int), Jvm.Cond.code ({ cls := "java/lang/AbstractStringBuilder", name := "length", desc := "()I" } : Jvm.MethodName) jdk_68_method_6_code (1 : Nat) (Option.some Jvm.ClassFile.FieldType.int), Jvm.Cond.code ({ cls := "java/lang/AbstractStringBuilder", name := "isLatin1", desc := "()Z" } : Jvm.MethodName) jdk_68_method_68_code (1 : Nat) (Option.some Jvm.ClassFile.FieldType.boolean), Jvm.Cond.code ({ cls := "java/util/Arrays", name := "copyOfRange", desc := "([BII)[B" } : Jvm.MethodName) jdk_65_method_132_code (3 : Nat) (Option.some (Jvm.ClassFile.FieldType.array Jvm.ClassFile.FieldType.byte)), Jvm.Cond.code ({ cls := "java/util/Arrays", name := "copyOfRangeByte", desc := "([BII)[B" } : Jvm.MethodName) jdk_65_method_133_code (5 : Nat) (Option.some (Jvm.ClassFile.FieldType.array Jvm.ClassFile.FieldType.byte)), Jvm.Cond.code ({ cls := "java/util/Arrays", name := "checkLength", desc := "(II)V" } : Jvm.MethodName) jdk_65_method_131_code (2 : Nat) (Option.none : Option Jvm.ClassFile.FieldType), Jvm.Cond.code ({ cls := "java/lang/Math", name := "min", desc := "(II)I" } : Jvm.MethodName) jdk_29_method_69_code (2 : Nat) (Option.some Jvm.ClassFile.FieldType.int), Jvm.Cond.code ({ cls := "java/lang/String", name := "equals", desc := "(Ljava/lang/Object;)Z" } : Jvm.MethodName) jdk_42_method_66_code (3 : Nat) (Option.some Jvm.ClassFile.FieldType.boolean), Jvm.Cond.code ({ cls := "java/lang/StringLatin1", name := "equals", desc := "([B[B)Z" } : Jvm.MethodName) jdk_43_method_13_code (3 : Nat) (Option.some Jvm.ClassFile.FieldType.boolean), Jvm.Cond.code ({ cls := "java/lang/AbstractStringBuilder", name := "newCapacity", desc := "(I)I" } : Jvm.MethodName) jdk_68_method_10_code (6 : Nat) (Option.some Jvm.ClassFile.FieldType.int), Jvm.Cond.code ({ cls := "jdk/internal/util/ArraysSupport", name := "newLength", desc := "(III)I" } : Jvm.MethodName) jdk_48_method_27_code (4 : Nat) (Option.some Jvm.ClassFile.FieldType.int), Jvm.Cond.code ({ cls := "java/lang/Math", name := "max", desc := "(II)I" } : Jvm.MethodName) jdk_29_method_65_code (2 : Nat) (Option.some Jvm.ClassFile.FieldType.int), Jvm.Cond.code ({ cls := "java/util/Arrays", name := "copyOf", desc := "([BI)[B" } : Jvm.MethodName) jdk_65_method_121_code (3 : Nat) (Option.some (Jvm.ClassFile.FieldType.array Jvm.ClassFile.FieldType.byte))]
set_option maxRecDepth 65536 in
theorem codes_eq : words1.filter isCode = codes1 := rfl
theorem w_codes : ∀ c ∈ words1.filter isCode, c.before args0 about1 = true := by
  rw [codes_eq]
  intro c hc
  simp only [codes1, List.mem_cons, List.not_mem_nil, or_false] at hc
  rcases hc with rfl | rfl | rfl | rfl | rfl | rfl | rfl | rfl | rfl | rfl | rfl | rfl | rfl | rfl | rfl | rfl | rfl | rfl | rfl | rfl | rfl | rfl | rfl | rfl | rfl | rfl | rfl | rfl | rfl | rfl | rfl | rfl | rfl | rfl | rfl | rfl | rfl | rfl | rfl | rfl | rfl | rfl | rfl | rfl | rfl | rfl | rfl | rfl | rfl | rfl | rfl | rfl
  · exact w_c0
  · exact w_c1
  · exact w_c2
  · exact w_c3
  · exact w_c4
  · exact w_c5
  · exact w_c6
  · exact w_c7
  · exact w_c8
  · exact w_c9
  · exact w_c10
  · exact w_c11
  · exact w_c12
  · exact w_c13
  · exact w_c14
  · exact w_c15
  · exact w_c16
  · exact w_c17
  · exact w_c18
  · exact w_c19
  · exact w_c20
  · exact w_c21
  · exact w_c22
  · exact w_c23
  · exact w_c24
  · exact w_c25
  · exact w_c26
  · exact w_c27
  · exact w_c28
  · exact w_c29
  · exact w_c30
  · exact w_c31
  · exact w_c32
  · exact w_c33
  · exact w_c34
  · exact w_c35
  · exact w_c36
  · exact w_c37
  · exact w_c38
  · exact w_c39
  · exact w_c40
  · exact w_c41
  · exact w_c42
  · exact w_c43
  · exact w_c44
  · exact w_c45
  · exact w_c46
  · exact w_c47
  · exact w_c48
  · exact w_c49
  · exact w_c50
  · exact w_c51
set_option maxRecDepth 65536 in
theorem w_t1 : (words1.take 24).all (fun c => isCode c || c.before args0 about1) = true := by decide +kernel
set_option maxRecDepth 65536 in
theorem w_t2 : ((words1.drop 24).take 24).all (fun c => isCode c || c.before args0 about1) = true := by decide +kernel
set_option maxRecDepth 65536 in
theorem w_t3 : (((words1.drop 24).drop 24).take 24).all (fun c => isCode c || c.before args0 about1) = true := by decide +kernel
set_option maxRecDepth 65536 in
theorem w_t4 : ((((words1.drop 24).drop 24).drop 24).take 24).all (fun c => isCode c || c.before args0 about1) = true := by decide +kernel
set_option maxRecDepth 65536 in
theorem w_t5 : (((((words1.drop 24).drop 24).drop 24).drop 24).take 24).all (fun c => isCode c || c.before args0 about1) = true := by decide +kernel
set_option maxRecDepth 65536 in
theorem w_t6 : ((((((words1.drop 24).drop 24).drop 24).drop 24).drop 24).take 24).all (fun c => isCode c || c.before args0 about1) = true := by decide +kernel
set_option maxRecDepth 65536 in
theorem w_t7 : (((((((words1.drop 24).drop 24).drop 24).drop 24).drop 24).drop 24).take 24).all (fun c => isCode c || c.before args0 about1) = true := by decide +kernel
set_option maxRecDepth 65536 in
theorem w_t8 : ((((((((words1.drop 24).drop 24).drop 24).drop 24).drop 24).drop 24).drop 24).take 24).all (fun c => isCode c || c.before args0 about1) = true := by decide +kernel
set_option maxRecDepth 65536 in
theorem w_t9 : (((((((((words1.drop 24).drop 24).drop 24).drop 24).drop 24).drop 24).drop 24).drop 24).take 24).all (fun c => isCode c || c.before args0 about1) = true := by decide +kernel
set_option maxRecDepth 65536 in
theorem w_t10 : ((((((((((words1.drop 24).drop 24).drop 24).drop 24).drop 24).drop 24).drop 24).drop 24).drop 24).take 24).all (fun c => isCode c || c.before args0 about1) = true := by decide +kernel
set_option maxRecDepth 65536 in
theorem w_t11 : (((((((((((words1.drop 24).drop 24).drop 24).drop 24).drop 24).drop 24).drop 24).drop 24).drop 24).drop 24).take 24).all (fun c => isCode c || c.before args0 about1) = true := by decide +kernel
set_option maxRecDepth 65536 in
theorem w_t12 : (((((((((((words1.drop 24).drop 24).drop 24).drop 24).drop 24).drop 24).drop 24).drop 24).drop 24).drop 24).drop 24).all (fun c => isCode c || c.before args0 about1) = true := by decide +kernel
theorem w_tables : (allAtoms (Jvm.Cond.code x code maxLocals ret :: tables_1)).before args0 about1 = true := by
  rw [allAtoms_all]
  show words1.all (fun c => c.before args0 about1) = true
  refine all_split ?_ w_codes
  rw [← List.take_append_drop 24 words1, List.all_append, w_t1, ← List.take_append_drop 24 (words1.drop 24), List.all_append, w_t2, ← List.take_append_drop 24 ((words1.drop 24).drop 24), List.all_append, w_t3, ← List.take_append_drop 24 (((words1.drop 24).drop 24).drop 24), List.all_append, w_t4, ← List.take_append_drop 24 ((((words1.drop 24).drop 24).drop 24).drop 24), List.all_append, w_t5, ← List.take_append_drop 24 (((((words1.drop 24).drop 24).drop 24).drop 24).drop 24), List.all_append, w_t6, ← List.take_append_drop 24 ((((((words1.drop 24).drop 24).drop 24).drop 24).drop 24).drop 24), List.all_append, w_t7, ← List.take_append_drop 24 (((((((words1.drop 24).drop 24).drop 24).drop 24).drop 24).drop 24).drop 24), List.all_append, w_t8, ← List.take_append_drop 24 ((((((((words1.drop 24).drop 24).drop 24).drop 24).drop 24).drop 24).drop 24).drop 24), List.all_append, w_t9, ← List.take_append_drop 24 (((((((((words1.drop 24).drop 24).drop 24).drop 24).drop 24).drop 24).drop 24).drop 24).drop 24), List.all_append, w_t10, ← List.take_append_drop 24 ((((((((((words1.drop 24).drop 24).drop 24).drop 24).drop 24).drop 24).drop 24).drop 24).drop 24).drop 24), List.all_append, w_t11, w_t12]
  rfl
set_option maxRecDepth 65536 in
theorem w_rest : rest_1_c.before args0 about1 = true := by decide +kernel
set_option maxRecDepth 65536 in
theorem w_case : (Jvm.Cond.and given_1 narrow_1).before args0 about1 = true := by decide +kernel
set_option maxRecDepth 65536 in
theorem w_consts : constsHeld consts_1 about1 := Jvm.Lit.constsHeldB_iff.mp (by decide +kernel)
theorem w_applies : (headSpec (Jvm.Cond.code x code maxLocals ret :: tables_1) room_1).applies x e0.platform about1 = true :=
  (Spec.applies_iff w_frames).mpr ⟨w_running, w_runnable, w_alone, w_named, w_hears, w_ripe, w_room, w_tables⟩
theorem atStart : AtStart classFile x code maxLocals ret World_1 tables_1 room_1 Calls_1 rest_1 Pre_1 launch0 p0 e0 about1 theMethod args0 below0 :=
  ⟨lists_1, trivial, launch0.admits_env _ _ _, launch0.least_env, fairChoices_fair.cas, fairChoices_fair.clock, w_frames, w_args, w_heap, w_applies, ⟨w_consts, trivial⟩, w_rest, w_case⟩
end start1
theorem witness_1 : WitnessClaimed_1 := ⟨start1.p0, start1.e0, start1.about1, start1.theMethod, start1.args0, start1.below0, start1.atStart⟩
end Jvm.Pilot.@@N@@
