import JvmDerived
import JvmDerived.Pilot.@@N@@Statement
import JvmDerived.Pilot.@@N@@Code
set_option linter.unusedVariables false
set_option linter.unusedSimpArgs false
namespace Jvm.RoadKit
open Sem ClassFile Op Lib Jvm.Stand Jvm.Free Jvm.LawKit
section New
variable {p : Program} {l : Launch} {e : Env} {R : Room} {s : State} {m : MethodId} {args : Array Value} {below : List Frame} {meth : Method} {c : Code} {T : State} {locs : List Loc} {cells slots : Nat}
theorem retI (X : Stand p l e R s m args below meth c T locs cells slots) (hx : p.tables.exec = Jvm.exec) {pc : Nat} {Ls : Array Slot} {z : Int32} {rest : List Value} (hret : meth.sig.returnType = some .int) (hd : decode c.code pc = .ok (.ireturn, 1)) {fs : List Frame}
    (hl : ∀ (f : JFrame) (acts : List Action), f.method = m → f.locked = none → f.entered = [] → (doReturn e (T.setTop f) acts (some (.int z))).1 = T.setFrames fs) : Steps p.tables e below (T.setTop (mkF m pc Ls (.int z :: rest))) (T.setFrames fs) := by
  have hm' : T.vm.method? m = some meth := X.method'
  have hn : narrow .int (.int z) = .int z := rfl
  show Steps p.tables e below (T.setTop { method := m, pc := pc, locals := Ls, stack := _ :: rest, locked := none }) _
  jvm_step X.here [X.here.top, hx, hd, hm', hret, hn]
  first | (intro acts; rw [hl _ acts rfl rfl rfl]) | rw [hl _ _ rfl rfl rfl]
  exact Steps.refl _
end New
end Jvm.RoadKit
@@BLOCK:NumsL.lean.txt@@
@@BLOCK:SetKit.lean.txt@@
namespace Jvm.Pilot.@@N@@
open Jvm Jvm.ClassFile Sem Op Lib Jvm.Free Jvm.Stand Jvm.LawKit Jvm.RoadKit Bundle Jvm.Pilot.@@N@@.Jvm.D
theorem own_selP {s : State} {args args' : Array Value} {y x z : MethodName} {C : String} (h : (Jvm.Cond.selects C x z).before args' s = true) (hz : z.cls = y.cls) (hp : s.PrivateAt y) (hi : (Jvm.Cond.instanceMethod y).before args s = true) (hy : y.cls ≠ "java/lang/invoke/MethodHandle" ∧ y.cls ≠ "java/lang/invoke/VarHandle") : (Jvm.Cond.selects y.cls y y).before args s = true := by
  obtain ⟨c2, r2, m2, -, -, q3, -, kP, hkP, hkPi⟩ := Cond.selects_spec h
  exact Jvm.Stand.selects_self_of_private (hz ▸ findClass_of_methodNamed q3) hkP hkPi hp hi hy
theorem own_sameP {s : State} {args : Array Value} {y x z : MethodName} {C : String} (h : (Jvm.Cond.selects C x z).before args s = true) (hz : z.cls = y.cls) (hi : (Jvm.Cond.instanceMethod y).before args s = true) (hy : y.cls ≠ "java/lang/invoke/MethodHandle" ∧ y.cls ≠ "java/lang/invoke/VarHandle") : (Jvm.Cond.sameMethod y.cls y.cls y.name y.desc).before args s = true := by
  obtain ⟨c2, r2, m2, -, -, q3, -, kP, hkP, hkPi⟩ := Cond.selects_spec h
  obtain ⟨mk, methM, hnamed, hmethM, -, -⟩ := Cond.instanceMethod_spec hi
  have hf := State.methodFound?_of_named hnamed hy
  have hc := findClass_of_methodNamed hnamed
  have hc2 : s.vm.findClass y.cls = some m2.cls := hz ▸ findClass_of_methodNamed q3
  have e : mk.cls = m2.cls := Option.some.inj (hc.symm.trans hc2)
  simp [Cond.before, Cond.holds, Cond.value, hc, hf, hnamed, e, hkP, hkPi]
theorem own_nf {s : State} {args : Array Value} {y x z : MethodName} {C : String} (h : (Jvm.Cond.selects C x z).before args s = true) (hz : z.cls = y.cls) : NotFace s y := fun r0 h0 => by
  obtain ⟨c2, r2, m2, -, -, q3, -, kP, hkP, hkPi⟩ := Cond.selects_spec h
  have hc2 : s.vm.findClass y.cls = some m2.cls := hz ▸ findClass_of_methodNamed q3
  have e : r0.cls = m2.cls := Option.some.inj ((findClass_of_methodNamed h0).symm.trans hc2)
  exact ⟨kP, by rw [e]; exact hkP, hkPi⟩
abbrev mn0 : MethodName := ⟨"java/util/List", "of", "()Ljava/util/List;"⟩
abbrev mn1 : MethodName := ⟨"com/example/endless_runs/endlessruns/automaton/Label", "<init>", "(Lcom/example/endless_runs/endlessruns/automaton/Label$Kind;ILjava/util/List;)V"⟩
abbrev mn2 : MethodName := ⟨"com/example/endless_runs/endlessruns/automaton/Label", "proposition", "(I)Lcom/example/endless_runs/endlessruns/automaton/Label;"⟩
abbrev mn3 : MethodName := ⟨"java/lang/Enum", "ordinal", "()I"⟩
abbrev mn4 : MethodName := ⟨"java/lang/String", "<init>", "([BB)V"⟩
abbrev mn5 : MethodName := ⟨"java/lang/String", "coder", "()B"⟩
abbrev mn6 : MethodName := ⟨"java/lang/String", "length", "()I"⟩
abbrev mn7 : MethodName := ⟨"java/lang/String", "isLatin1", "()Z"⟩
abbrev mn8 : MethodName := ⟨"jdk/internal/util/Preconditions", "checkIndex", "(IILjava/util/function/BiFunction;)I"⟩
abbrev mn9 : MethodName := ⟨"java/lang/String", "checkIndex", "(II)V"⟩
abbrev mn10 : MethodName := ⟨"java/lang/StringLatin1", "charAt", "([BI)C"⟩
abbrev mn11 : MethodName := ⟨"java/lang/String", "charAt", "(I)C"⟩
abbrev mn12 : MethodName := ⟨"java/lang/Integer", "stringSize", "(I)I"⟩
abbrev mn13 : MethodName := ⟨"java/lang/Integer", "getChars", "(II[B)I"⟩
abbrev mn14 : MethodName := ⟨"java/lang/Integer", "toString", "(I)Ljava/lang/String;"⟩
abbrev mn15 : MethodName := ⟨"com/example/endless_runs/endlessruns/automaton/Label$Kind", "ordinal", "()I"⟩
abbrev mn16 : MethodName := ⟨"com/example/endless_runs/endlessruns/automaton/Label", "toString", "()Ljava/lang/String;"⟩
abbrev mn17 : MethodName := ⟨"com/example/endless_runs/endlessruns/automaton/LabelPropositionPinLaw", "digits", "(I)I"⟩
abbrev mn18 : MethodName := ⟨"com/example/endless_runs/endlessruns/automaton/LabelPropositionPinLaw", "pow10", "(I)I"⟩
abbrev mn19 : MethodName := ⟨"java/util/ImmutableCollections$ListN", "size", "()I"⟩
abbrev mn20 : MethodName := ⟨"java/util/ImmutableCollections$ListItr", "<init>", "(Ljava/util/List;I)V"⟩
abbrev mn21 : MethodName := ⟨"java/util/ImmutableCollections$AbstractImmutableList", "size", "()I"⟩
abbrev mn22 : MethodName := ⟨"java/util/ImmutableCollections$AbstractImmutableList", "iterator", "()Ljava/util/Iterator;"⟩
abbrev mn23 : MethodName := ⟨"java/util/ImmutableCollections$ListItr", "hasNext", "()Z"⟩
abbrev mn24 : MethodName := ⟨"java/util/List", "iterator", "()Ljava/util/Iterator;"⟩
abbrev mn25 : MethodName := ⟨"java/util/Iterator", "hasNext", "()Z"⟩
abbrev mn26 : MethodName := ⟨"com/example/endless_runs/endlessruns/automaton/Label", "getLargestProposition", "()I"⟩
theorem wd0 {a0 : Array Value} {Z : State} (hw : ∀ d ∈ tables_1, d.before a0 Z = true) : (Jvm.Cond.constant "com/example/endless_runs/endlessruns/automaton/LabelPropositionPinLaw" (7 : Nat) (2147483647 : Int32)).before a0 Z = true := hw _ (List.mem_of_getElem? (i := 0) rfl)
theorem wd1 {a0 : Array Value} {Z : State} (hw : ∀ d ∈ tables_1, d.before a0 Z = true) : (Jvm.Cond.methodLink "com/example/endless_runs/endlessruns/automaton/LabelPropositionPinLaw" (8 : Nat) ({ cls := "com/example/endless_runs/endlessruns/automaton/Label", name := "proposition", desc := "(I)Lcom/example/endless_runs/endlessruns/automaton/Label;" } : Jvm.MethodName)).before a0 Z = true := hw _ (List.mem_of_getElem? (i := 1) rfl)
theorem wd2 {a0 : Array Value} {Z : State} (hw : ∀ d ∈ tables_1, d.before a0 Z = true) : (Jvm.Cond.static ({ cls := "com/example/endless_runs/endlessruns/automaton/Label", name := "proposition", desc := "(I)Lcom/example/endless_runs/endlessruns/automaton/Label;" } : Jvm.MethodName)).before a0 Z = true := hw _ (List.mem_of_getElem? (i := 2) rfl)
theorem wd3 {a0 : Array Value} {Z : State} (hw : ∀ d ∈ tables_1, d.before a0 Z = true) : (Jvm.Cond.initialized "com/example/endless_runs/endlessruns/automaton/Label").before a0 Z = true := hw _ (List.mem_of_getElem? (i := 3) rfl)
theorem wd4 {a0 : Array Value} {Z : State} (hw : ∀ d ∈ tables_1, d.before a0 Z = true) : (Jvm.Cond.code ({ cls := "com/example/endless_runs/endlessruns/automaton/Label", name := "proposition", desc := "(I)Lcom/example/endless_runs/endlessruns/automaton/Label;" } : Jvm.MethodName) prog_19_method_2_code (1 : Nat) (Option.some (Jvm.ClassFile.FieldType.object "com/example/endless_runs/endlessruns/automaton/Label"))).before a0 Z = true := hw _ (List.mem_of_getElem? (i := 4) rfl)
theorem wd5 {a0 : Array Value} {Z : State} (hw : ∀ d ∈ tables_1, d.before a0 Z = true) : (Jvm.Cond.classLink "com/example/endless_runs/endlessruns/automaton/Label" (8 : Nat) "com/example/endless_runs/endlessruns/automaton/Label").before a0 Z = true := hw _ (List.mem_of_getElem? (i := 5) rfl)
theorem wd6 {a0 : Array Value} {Z : State} (hw : ∀ d ∈ tables_1, d.before a0 Z = true) : (Jvm.Cond.instantiable "com/example/endless_runs/endlessruns/automaton/Label" (3 : Nat)).before a0 Z = true := hw _ (List.mem_of_getElem? (i := 6) rfl)
theorem wd7 {a0 : Array Value} {Z : State} (hw : ∀ d ∈ tables_1, d.before a0 Z = true) : (Jvm.Cond.fieldLink "com/example/endless_runs/endlessruns/automaton/Label" (30 : Nat) "com/example/endless_runs/endlessruns/automaton/Label$Kind" "PROPOSITION" "Lcom/example/endless_runs/endlessruns/automaton/Label$Kind;").before a0 Z = true := hw _ (List.mem_of_getElem? (i := 7) rfl)
theorem wd8 {a0 : Array Value} {Z : State} (hw : ∀ d ∈ tables_1, d.before a0 Z = true) : (Jvm.Cond.initialized "com/example/endless_runs/endlessruns/automaton/Label$Kind").before a0 Z = true := hw _ (List.mem_of_getElem? (i := 8) rfl)
theorem wd9 {a0 : Array Value} {Z : State} (hw : ∀ d ∈ tables_1, d.before a0 Z = true) : (Jvm.Cond.laysStatic "com/example/endless_runs/endlessruns/automaton/Label$Kind" "PROPOSITION" "Lcom/example/endless_runs/endlessruns/automaton/Label$Kind;").before a0 Z = true := hw _ (List.mem_of_getElem? (i := 9) rfl)
theorem wd10 {a0 : Array Value} {Z : State} (hw : ∀ d ∈ tables_1, d.before a0 Z = true) : (Jvm.Cond.methodLink "com/example/endless_runs/endlessruns/automaton/Label" (35 : Nat) ({ cls := "java/util/List", name := "of", desc := "()Ljava/util/List;" } : Jvm.MethodName)).before a0 Z = true := hw _ (List.mem_of_getElem? (i := 10) rfl)
theorem wd11 {a0 : Array Value} {Z : State} (hw : ∀ d ∈ tables_1, d.before a0 Z = true) : (Jvm.Cond.static ({ cls := "java/util/List", name := "of", desc := "()Ljava/util/List;" } : Jvm.MethodName)).before a0 Z = true := hw _ (List.mem_of_getElem? (i := 11) rfl)
theorem wd12 {a0 : Array Value} {Z : State} (hw : ∀ d ∈ tables_1, d.before a0 Z = true) : (Jvm.Cond.initialized "java/util/List").before a0 Z = true := hw _ (List.mem_of_getElem? (i := 12) rfl)
theorem wd13 {a0 : Array Value} {Z : State} (hw : ∀ d ∈ tables_1, d.before a0 Z = true) : (Jvm.Cond.code ({ cls := "java/util/List", name := "of", desc := "()Ljava/util/List;" } : Jvm.MethodName) jdk_40_method_36_code (0 : Nat) (Option.some (Jvm.ClassFile.FieldType.object "java/util/List"))).before a0 Z = true := hw _ (List.mem_of_getElem? (i := 13) rfl)
theorem wd14 {a0 : Array Value} {Z : State} (hw : ∀ d ∈ tables_1, d.before a0 Z = true) : (Jvm.Cond.fieldLink "java/util/List" (90 : Nat) "java/util/ImmutableCollections" "EMPTY_LIST" "Ljava/util/ImmutableCollections$ListN;").before a0 Z = true := hw _ (List.mem_of_getElem? (i := 14) rfl)
theorem wd16 {a0 : Array Value} {Z : State} (hw : ∀ d ∈ tables_1, d.before a0 Z = true) : (Jvm.Cond.methodLink "com/example/endless_runs/endlessruns/automaton/Label" (41 : Nat) ({ cls := "com/example/endless_runs/endlessruns/automaton/Label", name := "<init>", desc := "(Lcom/example/endless_runs/endlessruns/automaton/Label$Kind;ILjava/util/List;)V" } : Jvm.MethodName)).before a0 Z = true := hw _ (List.mem_of_getElem? (i := 16) rfl)
theorem wd17 {a0 : Array Value} {Z : State} (hw : ∀ d ∈ tables_1, d.before a0 Z = true) : (Jvm.Cond.instanceMethod ({ cls := "com/example/endless_runs/endlessruns/automaton/Label", name := "<init>", desc := "(Lcom/example/endless_runs/endlessruns/automaton/Label$Kind;ILjava/util/List;)V" } : Jvm.MethodName)).before a0 Z = true := hw _ (List.mem_of_getElem? (i := 17) rfl)
theorem wd18 {a0 : Array Value} {Z : State} (hw : ∀ d ∈ tables_1, d.before a0 Z = true) : (Jvm.Cond.code ({ cls := "com/example/endless_runs/endlessruns/automaton/Label", name := "<init>", desc := "(Lcom/example/endless_runs/endlessruns/automaton/Label$Kind;ILjava/util/List;)V" } : Jvm.MethodName) prog_19_method_1_code (4 : Nat) (Option.none : Option Jvm.ClassFile.FieldType)).before a0 Z = true := hw _ (List.mem_of_getElem? (i := 18) rfl)
theorem wd19 {a0 : Array Value} {Z : State} (hw : ∀ d ∈ tables_1, d.before a0 Z = true) : (Jvm.Cond.methodLink "com/example/endless_runs/endlessruns/automaton/Label" (1 : Nat) ({ cls := "java/lang/Object", name := "<init>", desc := "()V" } : Jvm.MethodName)).before a0 Z = true := hw _ (List.mem_of_getElem? (i := 19) rfl)
theorem wd20 {a0 : Array Value} {Z : State} (hw : ∀ d ∈ tables_1, d.before a0 Z = true) : (Jvm.Cond.instanceMethod ({ cls := "java/lang/Object", name := "<init>", desc := "()V" } : Jvm.MethodName)).before a0 Z = true := hw _ (List.mem_of_getElem? (i := 20) rfl)
theorem wd21 {a0 : Array Value} {Z : State} (hw : ∀ d ∈ tables_1, d.before a0 Z = true) : (Jvm.Cond.code ({ cls := "java/lang/Object", name := "<init>", desc := "()V" } : Jvm.MethodName) object_method_1_code (1 : Nat) (Option.none : Option Jvm.ClassFile.FieldType)).before a0 Z = true := hw _ (List.mem_of_getElem? (i := 21) rfl)
theorem wd22 {a0 : Array Value} {Z : State} (hw : ∀ d ∈ tables_1, d.before a0 Z = true) : (Jvm.Cond.fieldLink "com/example/endless_runs/endlessruns/automaton/Label" (7 : Nat) "com/example/endless_runs/endlessruns/automaton/Label" "kind" "Lcom/example/endless_runs/endlessruns/automaton/Label$Kind;").before a0 Z = true := hw _ (List.mem_of_getElem? (i := 22) rfl)
theorem wd23 {a0 : Array Value} {Z : State} (hw : ∀ d ∈ tables_1, d.before a0 Z = true) : (Jvm.Cond.laysFinal "com/example/endless_runs/endlessruns/automaton/Label" "com/example/endless_runs/endlessruns/automaton/Label" "kind" "Lcom/example/endless_runs/endlessruns/automaton/Label$Kind;").before a0 Z = true := hw _ (List.mem_of_getElem? (i := 23) rfl)
theorem wd24 {a0 : Array Value} {Z : State} (hw : ∀ d ∈ tables_1, d.before a0 Z = true) : (Jvm.Cond.fieldLink "com/example/endless_runs/endlessruns/automaton/Label" (13 : Nat) "com/example/endless_runs/endlessruns/automaton/Label" "proposition" "I").before a0 Z = true := hw _ (List.mem_of_getElem? (i := 24) rfl)
theorem wd25 {a0 : Array Value} {Z : State} (hw : ∀ d ∈ tables_1, d.before a0 Z = true) : (Jvm.Cond.laysFinal "com/example/endless_runs/endlessruns/automaton/Label" "com/example/endless_runs/endlessruns/automaton/Label" "proposition" "I").before a0 Z = true := hw _ (List.mem_of_getElem? (i := 25) rfl)
theorem wd26 {a0 : Array Value} {Z : State} (hw : ∀ d ∈ tables_1, d.before a0 Z = true) : (Jvm.Cond.fieldLink "com/example/endless_runs/endlessruns/automaton/Label" (17 : Nat) "com/example/endless_runs/endlessruns/automaton/Label" "operands" "Ljava/util/List;").before a0 Z = true := hw _ (List.mem_of_getElem? (i := 26) rfl)
theorem wd27 {a0 : Array Value} {Z : State} (hw : ∀ d ∈ tables_1, d.before a0 Z = true) : (Jvm.Cond.laysFinal "com/example/endless_runs/endlessruns/automaton/Label" "com/example/endless_runs/endlessruns/automaton/Label" "operands" "Ljava/util/List;").before a0 Z = true := hw _ (List.mem_of_getElem? (i := 27) rfl)
theorem wd28 {a0 : Array Value} {Z : State} (hw : ∀ d ∈ tables_1, d.before a0 Z = true) : (Jvm.Cond.methodLink "com/example/endless_runs/endlessruns/automaton/LabelPropositionPinLaw" (14 : Nat) ({ cls := "com/example/endless_runs/endlessruns/automaton/Label", name := "toString", desc := "()Ljava/lang/String;" } : Jvm.MethodName)).before a0 Z = true := hw _ (List.mem_of_getElem? (i := 28) rfl)
theorem wd29 {a0 : Array Value} {Z : State} (hw : ∀ d ∈ tables_1, d.before a0 Z = true) : (Jvm.Cond.declares ({ cls := "com/example/endless_runs/endlessruns/automaton/Label", name := "toString", desc := "()Ljava/lang/String;" } : Jvm.MethodName)).before a0 Z = true := hw _ (List.mem_of_getElem? (i := 29) rfl)
theorem wd30 {a0 : Array Value} {Z : State} (hw : ∀ d ∈ tables_1, d.before a0 Z = true) : (Jvm.Cond.instanceMethod ({ cls := "com/example/endless_runs/endlessruns/automaton/Label", name := "toString", desc := "()Ljava/lang/String;" } : Jvm.MethodName)).before a0 Z = true := hw _ (List.mem_of_getElem? (i := 30) rfl)
theorem wd31 {a0 : Array Value} {Z : State} (hw : ∀ d ∈ tables_1, d.before a0 Z = true) : (Jvm.Cond.selects "com/example/endless_runs/endlessruns/automaton/Label" ({ cls := "com/example/endless_runs/endlessruns/automaton/Label", name := "toString", desc := "()Ljava/lang/String;" } : Jvm.MethodName) ({ cls := "com/example/endless_runs/endlessruns/automaton/Label", name := "toString", desc := "()Ljava/lang/String;" } : Jvm.MethodName)).before a0 Z = true := hw _ (List.mem_of_getElem? (i := 31) rfl)
theorem wd32 {a0 : Array Value} {Z : State} (hw : ∀ d ∈ tables_1, d.before a0 Z = true) : (Jvm.Cond.code ({ cls := "com/example/endless_runs/endlessruns/automaton/Label", name := "toString", desc := "()Ljava/lang/String;" } : Jvm.MethodName) prog_19_method_10_code (2 : Nat) (Option.some (Jvm.ClassFile.FieldType.object "java/lang/String"))).before a0 Z = true := hw _ (List.mem_of_getElem? (i := 32) rfl)
theorem wd33 {a0 : Array Value} {Z : State} (hw : ∀ d ∈ tables_1, d.before a0 Z = true) : (Jvm.Cond.methodLink "com/example/endless_runs/endlessruns/automaton/Label" (143 : Nat) ({ cls := "com/example/endless_runs/endlessruns/automaton/Label$Kind", name := "ordinal", desc := "()I" } : Jvm.MethodName)).before a0 Z = true := hw _ (List.mem_of_getElem? (i := 33) rfl)
theorem wd34 {a0 : Array Value} {Z : State} (hw : ∀ d ∈ tables_1, d.before a0 Z = true) : (Jvm.Cond.sameMethod "com/example/endless_runs/endlessruns/automaton/Label$Kind" "java/lang/Enum" "ordinal" "()I").before a0 Z = true := hw _ (List.mem_of_getElem? (i := 34) rfl)
theorem wd35 {a0 : Array Value} {Z : State} (hw : ∀ d ∈ tables_1, d.before a0 Z = true) : (Jvm.Cond.declares ({ cls := "java/lang/Enum", name := "ordinal", desc := "()I" } : Jvm.MethodName)).before a0 Z = true := hw _ (List.mem_of_getElem? (i := 35) rfl)
theorem wd36 {a0 : Array Value} {Z : State} (hw : ∀ d ∈ tables_1, d.before a0 Z = true) : (Jvm.Cond.instanceMethod ({ cls := "java/lang/Enum", name := "ordinal", desc := "()I" } : Jvm.MethodName)).before a0 Z = true := hw _ (List.mem_of_getElem? (i := 36) rfl)
theorem wd37 {a0 : Array Value} {Z : State} (hw : ∀ d ∈ tables_1, d.before a0 Z = true) : (Jvm.Cond.selects "com/example/endless_runs/endlessruns/automaton/Label$Kind" ({ cls := "com/example/endless_runs/endlessruns/automaton/Label$Kind", name := "ordinal", desc := "()I" } : Jvm.MethodName) ({ cls := "java/lang/Enum", name := "ordinal", desc := "()I" } : Jvm.MethodName)).before a0 Z = true := hw _ (List.mem_of_getElem? (i := 37) rfl)
theorem wd38 {a0 : Array Value} {Z : State} (hw : ∀ d ∈ tables_1, d.before a0 Z = true) : (Jvm.Cond.initialized "java/lang/Enum").before a0 Z = true := hw _ (List.mem_of_getElem? (i := 38) rfl)
theorem wd39 {a0 : Array Value} {Z : State} (hw : ∀ d ∈ tables_1, d.before a0 Z = true) : (Jvm.Cond.code ({ cls := "java/lang/Enum", name := "ordinal", desc := "()I" } : Jvm.MethodName) jdk_37_method_2_code (1 : Nat) (Option.some Jvm.ClassFile.FieldType.int)).before a0 Z = true := hw _ (List.mem_of_getElem? (i := 39) rfl)
theorem wd40 {a0 : Array Value} {Z : State} (hw : ∀ d ∈ tables_1, d.before a0 Z = true) : (Jvm.Cond.fieldLink "java/lang/Enum" (7 : Nat) "java/lang/Enum" "ordinal" "I").before a0 Z = true := hw _ (List.mem_of_getElem? (i := 40) rfl)
theorem wd42 {a0 : Array Value} {Z : State} (hw : ∀ d ∈ tables_1, d.before a0 Z = true) : (Jvm.Cond.methodLink "com/example/endless_runs/endlessruns/automaton/Label" (155 : Nat) ({ cls := "java/lang/Integer", name := "toString", desc := "(I)Ljava/lang/String;" } : Jvm.MethodName)).before a0 Z = true := hw _ (List.mem_of_getElem? (i := 42) rfl)
theorem wd43 {a0 : Array Value} {Z : State} (hw : ∀ d ∈ tables_1, d.before a0 Z = true) : (Jvm.Cond.static ({ cls := "java/lang/Integer", name := "toString", desc := "(I)Ljava/lang/String;" } : Jvm.MethodName)).before a0 Z = true := hw _ (List.mem_of_getElem? (i := 43) rfl)
theorem wd44 {a0 : Array Value} {Z : State} (hw : ∀ d ∈ tables_1, d.before a0 Z = true) : (Jvm.Cond.initialized "java/lang/Integer").before a0 Z = true := hw _ (List.mem_of_getElem? (i := 44) rfl)
theorem wd45 {a0 : Array Value} {Z : State} (hw : ∀ d ∈ tables_1, d.before a0 Z = true) : (Jvm.Cond.code ({ cls := "java/lang/Integer", name := "toString", desc := "(I)Ljava/lang/String;" } : Jvm.MethodName) jdk_33_method_10_code (3 : Nat) (Option.some (Jvm.ClassFile.FieldType.object "java/lang/String"))).before a0 Z = true := hw _ (List.mem_of_getElem? (i := 45) rfl)
theorem wd46 {a0 : Array Value} {Z : State} (hw : ∀ d ∈ tables_1, d.before a0 Z = true) : (Jvm.Cond.methodLink "java/lang/Integer" (72 : Nat) ({ cls := "java/lang/Integer", name := "stringSize", desc := "(I)I" } : Jvm.MethodName)).before a0 Z = true := hw _ (List.mem_of_getElem? (i := 46) rfl)
theorem wd47 {a0 : Array Value} {Z : State} (hw : ∀ d ∈ tables_1, d.before a0 Z = true) : (Jvm.Cond.static ({ cls := "java/lang/Integer", name := "stringSize", desc := "(I)I" } : Jvm.MethodName)).before a0 Z = true := hw _ (List.mem_of_getElem? (i := 47) rfl)
theorem wd48 {a0 : Array Value} {Z : State} (hw : ∀ d ∈ tables_1, d.before a0 Z = true) : (Jvm.Cond.code ({ cls := "java/lang/Integer", name := "stringSize", desc := "(I)I" } : Jvm.MethodName) jdk_33_method_13_code (4 : Nat) (Option.some Jvm.ClassFile.FieldType.int)).before a0 Z = true := hw _ (List.mem_of_getElem? (i := 48) rfl)
theorem wd49 {a0 : Array Value} {Z : State} (hw : ∀ d ∈ tables_1, d.before a0 Z = true) : (Jvm.Cond.fieldLink "java/lang/Integer" (13 : Nat) "java/lang/String" "COMPACT_STRINGS" "Z").before a0 Z = true := hw _ (List.mem_of_getElem? (i := 49) rfl)
theorem wd50 {a0 : Array Value} {Z : State} (hw : ∀ d ∈ tables_1, d.before a0 Z = true) : (Jvm.Cond.initialized "java/lang/String").before a0 Z = true := hw _ (List.mem_of_getElem? (i := 50) rfl)
theorem wd51 {a0 : Array Value} {Z : State} (hw : ∀ d ∈ tables_1, d.before a0 Z = true) : (Jvm.Cond.arrayClass Jvm.ClassFile.FieldType.byte).before a0 Z = true := hw _ (List.mem_of_getElem? (i := 51) rfl)
theorem wd52 {a0 : Array Value} {Z : State} (hw : ∀ d ∈ tables_1, d.before a0 Z = true) : (Jvm.Cond.methodLink "java/lang/Integer" (75 : Nat) ({ cls := "java/lang/Integer", name := "getChars", desc := "(II[B)I" } : Jvm.MethodName)).before a0 Z = true := hw _ (List.mem_of_getElem? (i := 52) rfl)
theorem wd53 {a0 : Array Value} {Z : State} (hw : ∀ d ∈ tables_1, d.before a0 Z = true) : (Jvm.Cond.static ({ cls := "java/lang/Integer", name := "getChars", desc := "(II[B)I" } : Jvm.MethodName)).before a0 Z = true := hw _ (List.mem_of_getElem? (i := 53) rfl)
theorem wd54 {a0 : Array Value} {Z : State} (hw : ∀ d ∈ tables_1, d.before a0 Z = true) : (Jvm.Cond.code ({ cls := "java/lang/Integer", name := "getChars", desc := "(II[B)I" } : Jvm.MethodName) jdk_33_method_12_code (7 : Nat) (Option.some Jvm.ClassFile.FieldType.int)).before a0 Z = true := hw _ (List.mem_of_getElem? (i := 54) rfl)
theorem wd56 {a0 : Array Value} {Z : State} (hw : ∀ d ∈ tables_1, d.before a0 Z = true) : (Jvm.Cond.classLink "java/lang/Integer" (5 : Nat) "java/lang/String").before a0 Z = true := hw _ (List.mem_of_getElem? (i := 56) rfl)
theorem wd57 {a0 : Array Value} {Z : State} (hw : ∀ d ∈ tables_1, d.before a0 Z = true) : (Jvm.Cond.instantiable "java/lang/String" (4 : Nat)).before a0 Z = true := hw _ (List.mem_of_getElem? (i := 57) rfl)
theorem wd58 {a0 : Array Value} {Z : State} (hw : ∀ d ∈ tables_1, d.before a0 Z = true) : (Jvm.Cond.methodLink "java/lang/Integer" (65 : Nat) ({ cls := "java/lang/String", name := "<init>", desc := "([BB)V" } : Jvm.MethodName)).before a0 Z = true := hw _ (List.mem_of_getElem? (i := 58) rfl)
theorem wd59 {a0 : Array Value} {Z : State} (hw : ∀ d ∈ tables_1, d.before a0 Z = true) : (Jvm.Cond.instanceMethod ({ cls := "java/lang/String", name := "<init>", desc := "([BB)V" } : Jvm.MethodName)).before a0 Z = true := hw _ (List.mem_of_getElem? (i := 59) rfl)
theorem wd61 {a0 : Array Value} {Z : State} (hw : ∀ d ∈ tables_1, d.before a0 Z = true) : (Jvm.Cond.code ({ cls := "java/lang/String", name := "<init>", desc := "([BB)V" } : Jvm.MethodName) jdk_42_method_151_code (3 : Nat) (Option.none : Option Jvm.ClassFile.FieldType)).before a0 Z = true := hw _ (List.mem_of_getElem? (i := 61) rfl)
theorem wd62 {a0 : Array Value} {Z : State} (hw : ∀ d ∈ tables_1, d.before a0 Z = true) : (Jvm.Cond.methodLink "java/lang/String" (1 : Nat) ({ cls := "java/lang/Object", name := "<init>", desc := "()V" } : Jvm.MethodName)).before a0 Z = true := hw _ (List.mem_of_getElem? (i := 62) rfl)
theorem wd63 {a0 : Array Value} {Z : State} (hw : ∀ d ∈ tables_1, d.before a0 Z = true) : (Jvm.Cond.fieldLink "java/lang/String" (9 : Nat) "java/lang/String" "value" "[B").before a0 Z = true := hw _ (List.mem_of_getElem? (i := 63) rfl)
theorem wd64 {a0 : Array Value} {Z : State} (hw : ∀ d ∈ tables_1, d.before a0 Z = true) : (Jvm.Cond.laysFinal "java/lang/String" "java/lang/String" "value" "[B").before a0 Z = true := hw _ (List.mem_of_getElem? (i := 64) rfl)
theorem wd65 {a0 : Array Value} {Z : State} (hw : ∀ d ∈ tables_1, d.before a0 Z = true) : (Jvm.Cond.fieldLink "java/lang/String" (15 : Nat) "java/lang/String" "coder" "B").before a0 Z = true := hw _ (List.mem_of_getElem? (i := 65) rfl)
theorem wd66 {a0 : Array Value} {Z : State} (hw : ∀ d ∈ tables_1, d.before a0 Z = true) : (Jvm.Cond.laysFinal "java/lang/String" "java/lang/String" "coder" "B").before a0 Z = true := hw _ (List.mem_of_getElem? (i := 66) rfl)
theorem wd67 {a0 : Array Value} {Z : State} (hw : ∀ d ∈ tables_1, d.before a0 Z = true) : (Jvm.Cond.methodLink "com/example/endless_runs/endlessruns/automaton/LabelPropositionPinLaw" (18 : Nat) ({ cls := "com/example/endless_runs/endlessruns/automaton/LabelPropositionPinLaw", name := "digits", desc := "(I)I" } : Jvm.MethodName)).before a0 Z = true := hw _ (List.mem_of_getElem? (i := 67) rfl)
theorem wd68 {a0 : Array Value} {Z : State} (hw : ∀ d ∈ tables_1, d.before a0 Z = true) : (Jvm.Cond.static ({ cls := "com/example/endless_runs/endlessruns/automaton/LabelPropositionPinLaw", name := "digits", desc := "(I)I" } : Jvm.MethodName)).before a0 Z = true := hw _ (List.mem_of_getElem? (i := 68) rfl)
theorem wd69 {a0 : Array Value} {Z : State} (hw : ∀ d ∈ tables_1, d.before a0 Z = true) : (Jvm.Cond.initialized "com/example/endless_runs/endlessruns/automaton/LabelPropositionPinLaw").before a0 Z = true := hw _ (List.mem_of_getElem? (i := 69) rfl)
theorem wd70 {a0 : Array Value} {Z : State} (hw : ∀ d ∈ tables_1, d.before a0 Z = true) : (Jvm.Cond.code ({ cls := "com/example/endless_runs/endlessruns/automaton/LabelPropositionPinLaw", name := "digits", desc := "(I)I" } : Jvm.MethodName) method_3_code (1 : Nat) (Option.some Jvm.ClassFile.FieldType.int)).before a0 Z = true := hw _ (List.mem_of_getElem? (i := 70) rfl)
theorem wd71 {a0 : Array Value} {Z : State} (hw : ∀ d ∈ tables_1, d.before a0 Z = true) : (Jvm.Cond.methodLink "com/example/endless_runs/endlessruns/automaton/LabelPropositionPinLaw" (24 : Nat) ({ cls := "com/example/endless_runs/endlessruns/automaton/LabelPropositionPinLaw", name := "pow10", desc := "(I)I" } : Jvm.MethodName)).before a0 Z = true := hw _ (List.mem_of_getElem? (i := 71) rfl)
theorem wd72 {a0 : Array Value} {Z : State} (hw : ∀ d ∈ tables_1, d.before a0 Z = true) : (Jvm.Cond.static ({ cls := "com/example/endless_runs/endlessruns/automaton/LabelPropositionPinLaw", name := "pow10", desc := "(I)I" } : Jvm.MethodName)).before a0 Z = true := hw _ (List.mem_of_getElem? (i := 72) rfl)
theorem wd73 {a0 : Array Value} {Z : State} (hw : ∀ d ∈ tables_1, d.before a0 Z = true) : (Jvm.Cond.code ({ cls := "com/example/endless_runs/endlessruns/automaton/LabelPropositionPinLaw", name := "pow10", desc := "(I)I" } : Jvm.MethodName) method_4_code (1 : Nat) (Option.some Jvm.ClassFile.FieldType.int)).before a0 Z = true := hw _ (List.mem_of_getElem? (i := 73) rfl)
theorem wd74 {a0 : Array Value} {Z : State} (hw : ∀ d ∈ tables_1, d.before a0 Z = true) : (Jvm.Cond.fieldLink "com/example/endless_runs/endlessruns/automaton/LabelPropositionPinLaw" (27 : Nat) "com/example/endless_runs/endlessruns/automaton/Label" "TRUE" "Lcom/example/endless_runs/endlessruns/automaton/Label;").before a0 Z = true := hw _ (List.mem_of_getElem? (i := 74) rfl)
theorem wd75 {a0 : Array Value} {Z : State} (hw : ∀ d ∈ tables_1, d.before a0 Z = true) : (Jvm.Cond.laysStatic "com/example/endless_runs/endlessruns/automaton/Label" "TRUE" "Lcom/example/endless_runs/endlessruns/automaton/Label;").before a0 Z = true := hw _ (List.mem_of_getElem? (i := 75) rfl)
theorem wd76 {a0 : Array Value} {Z : State} (hw : ∀ d ∈ tables_1, d.before a0 Z = true) : (Jvm.Cond.fieldLink "com/example/endless_runs/endlessruns/automaton/LabelPropositionPinLaw" (31 : Nat) "com/example/endless_runs/endlessruns/automaton/Label" "FALSE" "Lcom/example/endless_runs/endlessruns/automaton/Label;").before a0 Z = true := hw _ (List.mem_of_getElem? (i := 76) rfl)
theorem wd77 {a0 : Array Value} {Z : State} (hw : ∀ d ∈ tables_1, d.before a0 Z = true) : (Jvm.Cond.laysStatic "com/example/endless_runs/endlessruns/automaton/Label" "FALSE" "Lcom/example/endless_runs/endlessruns/automaton/Label;").before a0 Z = true := hw _ (List.mem_of_getElem? (i := 77) rfl)
theorem wd78 {a0 : Array Value} {Z : State} (hw : ∀ d ∈ tables_1, d.before a0 Z = true) : (Jvm.Cond.methodLink "com/example/endless_runs/endlessruns/automaton/LabelPropositionPinLaw" (34 : Nat) ({ cls := "com/example/endless_runs/endlessruns/automaton/Label", name := "getLargestProposition", desc := "()I" } : Jvm.MethodName)).before a0 Z = true := hw _ (List.mem_of_getElem? (i := 78) rfl)
theorem wd79 {a0 : Array Value} {Z : State} (hw : ∀ d ∈ tables_1, d.before a0 Z = true) : (Jvm.Cond.declares ({ cls := "com/example/endless_runs/endlessruns/automaton/Label", name := "getLargestProposition", desc := "()I" } : Jvm.MethodName)).before a0 Z = true := hw _ (List.mem_of_getElem? (i := 79) rfl)
theorem wd80 {a0 : Array Value} {Z : State} (hw : ∀ d ∈ tables_1, d.before a0 Z = true) : (Jvm.Cond.instanceMethod ({ cls := "com/example/endless_runs/endlessruns/automaton/Label", name := "getLargestProposition", desc := "()I" } : Jvm.MethodName)).before a0 Z = true := hw _ (List.mem_of_getElem? (i := 80) rfl)
theorem wd81 {a0 : Array Value} {Z : State} (hw : ∀ d ∈ tables_1, d.before a0 Z = true) : (Jvm.Cond.selects "com/example/endless_runs/endlessruns/automaton/Label" ({ cls := "com/example/endless_runs/endlessruns/automaton/Label", name := "getLargestProposition", desc := "()I" } : Jvm.MethodName) ({ cls := "com/example/endless_runs/endlessruns/automaton/Label", name := "getLargestProposition", desc := "()I" } : Jvm.MethodName)).before a0 Z = true := hw _ (List.mem_of_getElem? (i := 81) rfl)
theorem wd82 {a0 : Array Value} {Z : State} (hw : ∀ d ∈ tables_1, d.before a0 Z = true) : (Jvm.Cond.code ({ cls := "com/example/endless_runs/endlessruns/automaton/Label", name := "getLargestProposition", desc := "()I" } : Jvm.MethodName) prog_19_method_8_code (4 : Nat) (Option.some Jvm.ClassFile.FieldType.int)).before a0 Z = true := hw _ (List.mem_of_getElem? (i := 82) rfl)
theorem wd83 {a0 : Array Value} {Z : State} (hw : ∀ d ∈ tables_1, d.before a0 Z = true) : (Jvm.Cond.methodLink "com/example/endless_runs/endlessruns/automaton/Label" (108 : Nat) ({ cls := "java/util/List", name := "iterator", desc := "()Ljava/util/Iterator;" } : Jvm.MethodName)).before a0 Z = true := hw _ (List.mem_of_getElem? (i := 83) rfl)
theorem wd84 {a0 : Array Value} {Z : State} (hw : ∀ d ∈ tables_1, d.before a0 Z = true) : (Jvm.Cond.declares ({ cls := "java/util/List", name := "iterator", desc := "()Ljava/util/Iterator;" } : Jvm.MethodName)).before a0 Z = true := hw _ (List.mem_of_getElem? (i := 84) rfl)
theorem wd85 {a0 : Array Value} {Z : State} (hw : ∀ d ∈ tables_1, d.before a0 Z = true) : (Jvm.Cond.interfaceMethod "java/util/List" "java/util/List" "iterator" "()Ljava/util/Iterator;").before a0 Z = true := hw _ (List.mem_of_getElem? (i := 85) rfl)
theorem wd86 {a0 : Array Value} {Z : State} (hw : ∀ d ∈ tables_1, d.before a0 Z = true) : (Jvm.Cond.selects "java/util/ImmutableCollections$ListN" ({ cls := "java/util/List", name := "iterator", desc := "()Ljava/util/Iterator;" } : Jvm.MethodName) ({ cls := "java/util/ImmutableCollections$AbstractImmutableList", name := "iterator", desc := "()Ljava/util/Iterator;" } : Jvm.MethodName)).before a0 Z = true := hw _ (List.mem_of_getElem? (i := 86) rfl)
theorem wd87 {a0 : Array Value} {Z : State} (hw : ∀ d ∈ tables_1, d.before a0 Z = true) : (Jvm.Cond.instanceMethod ({ cls := "java/util/ImmutableCollections$AbstractImmutableList", name := "iterator", desc := "()Ljava/util/Iterator;" } : Jvm.MethodName)).before a0 Z = true := hw _ (List.mem_of_getElem? (i := 87) rfl)
theorem wd88 {a0 : Array Value} {Z : State} (hw : ∀ d ∈ tables_1, d.before a0 Z = true) : (Jvm.Cond.publicMethod ({ cls := "java/util/ImmutableCollections$AbstractImmutableList", name := "iterator", desc := "()Ljava/util/Iterator;" } : Jvm.MethodName)).before a0 Z = true := hw _ (List.mem_of_getElem? (i := 88) rfl)
theorem wd89 {a0 : Array Value} {Z : State} (hw : ∀ d ∈ tables_1, d.before a0 Z = true) : (Jvm.Cond.unhidden "java/util/ImmutableCollections$ListN" "iterator" "()Ljava/util/Iterator;").before a0 Z = true := hw _ (List.mem_of_getElem? (i := 89) rfl)
theorem wd90 {a0 : Array Value} {Z : State} (hw : ∀ d ∈ tables_1, d.before a0 Z = true) : (Jvm.Cond.castable "java/util/ImmutableCollections$ListN" "java/util/List").before a0 Z = true := hw _ (List.mem_of_getElem? (i := 90) rfl)
theorem wd91 {a0 : Array Value} {Z : State} (hw : ∀ d ∈ tables_1, d.before a0 Z = true) : (Jvm.Cond.initialized "java/util/ImmutableCollections$AbstractImmutableList").before a0 Z = true := hw _ (List.mem_of_getElem? (i := 91) rfl)
theorem wd92 {a0 : Array Value} {Z : State} (hw : ∀ d ∈ tables_1, d.before a0 Z = true) : (Jvm.Cond.code ({ cls := "java/util/ImmutableCollections$AbstractImmutableList", name := "iterator", desc := "()Ljava/util/Iterator;" } : Jvm.MethodName) jdk_46_method_10_code (1 : Nat) (Option.some (Jvm.ClassFile.FieldType.object "java/util/Iterator"))).before a0 Z = true := hw _ (List.mem_of_getElem? (i := 92) rfl)
theorem wd93 {a0 : Array Value} {Z : State} (hw : ∀ d ∈ tables_1, d.before a0 Z = true) : (Jvm.Cond.classLink "java/util/ImmutableCollections$AbstractImmutableList" (61 : Nat) "java/util/ImmutableCollections$ListItr").before a0 Z = true := hw _ (List.mem_of_getElem? (i := 93) rfl)
theorem wd94 {a0 : Array Value} {Z : State} (hw : ∀ d ∈ tables_1, d.before a0 Z = true) : (Jvm.Cond.instantiable "java/util/ImmutableCollections$ListItr" (4 : Nat)).before a0 Z = true := hw _ (List.mem_of_getElem? (i := 94) rfl)
theorem wd95 {a0 : Array Value} {Z : State} (hw : ∀ d ∈ tables_1, d.before a0 Z = true) : (Jvm.Cond.initialized "java/util/ImmutableCollections$ListItr").before a0 Z = true := hw _ (List.mem_of_getElem? (i := 95) rfl)
theorem wd96 {a0 : Array Value} {Z : State} (hw : ∀ d ∈ tables_1, d.before a0 Z = true) : (Jvm.Cond.methodLink "java/util/ImmutableCollections$AbstractImmutableList" (13 : Nat) ({ cls := "java/util/ImmutableCollections$AbstractImmutableList", name := "size", desc := "()I" } : Jvm.MethodName)).before a0 Z = true := hw _ (List.mem_of_getElem? (i := 96) rfl)
theorem wd97 {a0 : Array Value} {Z : State} (hw : ∀ d ∈ tables_1, d.before a0 Z = true) : (Jvm.Cond.sameMethod "java/util/ImmutableCollections$AbstractImmutableList" "java/util/AbstractCollection" "size" "()I").before a0 Z = true := hw _ (List.mem_of_getElem? (i := 97) rfl)
theorem wd98 {a0 : Array Value} {Z : State} (hw : ∀ d ∈ tables_1, d.before a0 Z = true) : (Jvm.Cond.declares ({ cls := "java/util/AbstractCollection", name := "size", desc := "()I" } : Jvm.MethodName)).before a0 Z = true := hw _ (List.mem_of_getElem? (i := 98) rfl)
theorem wd99 {a0 : Array Value} {Z : State} (hw : ∀ d ∈ tables_1, d.before a0 Z = true) : (Jvm.Cond.selects "java/util/ImmutableCollections$ListN" ({ cls := "java/util/ImmutableCollections$AbstractImmutableList", name := "size", desc := "()I" } : Jvm.MethodName) ({ cls := "java/util/ImmutableCollections$ListN", name := "size", desc := "()I" } : Jvm.MethodName)).before a0 Z = true := hw _ (List.mem_of_getElem? (i := 99) rfl)
theorem wd100 {a0 : Array Value} {Z : State} (hw : ∀ d ∈ tables_1, d.before a0 Z = true) : (Jvm.Cond.instanceMethod ({ cls := "java/util/ImmutableCollections$ListN", name := "size", desc := "()I" } : Jvm.MethodName)).before a0 Z = true := hw _ (List.mem_of_getElem? (i := 100) rfl)
theorem wd101 {a0 : Array Value} {Z : State} (hw : ∀ d ∈ tables_1, d.before a0 Z = true) : (Jvm.Cond.initialized "java/util/ImmutableCollections$ListN").before a0 Z = true := hw _ (List.mem_of_getElem? (i := 101) rfl)
theorem wd102 {a0 : Array Value} {Z : State} (hw : ∀ d ∈ tables_1, d.before a0 Z = true) : (Jvm.Cond.code ({ cls := "java/util/ImmutableCollections$ListN", name := "size", desc := "()I" } : Jvm.MethodName) jdk_45_method_3_code (1 : Nat) (Option.some Jvm.ClassFile.FieldType.int)).before a0 Z = true := hw _ (List.mem_of_getElem? (i := 102) rfl)
theorem wd103 {a0 : Array Value} {Z : State} (hw : ∀ d ∈ tables_1, d.before a0 Z = true) : (Jvm.Cond.fieldLink "java/util/ImmutableCollections$ListN" (7 : Nat) "java/util/ImmutableCollections$ListN" "elements" "[Ljava/lang/Object;").before a0 Z = true := hw _ (List.mem_of_getElem? (i := 103) rfl)
theorem wd105 {a0 : Array Value} {Z : State} (hw : ∀ d ∈ tables_1, d.before a0 Z = true) : (Jvm.Cond.methodLink "java/util/ImmutableCollections$AbstractImmutableList" (63 : Nat) ({ cls := "java/util/ImmutableCollections$ListItr", name := "<init>", desc := "(Ljava/util/List;I)V" } : Jvm.MethodName)).before a0 Z = true := hw _ (List.mem_of_getElem? (i := 105) rfl)
theorem wd106 {a0 : Array Value} {Z : State} (hw : ∀ d ∈ tables_1, d.before a0 Z = true) : (Jvm.Cond.instanceMethod ({ cls := "java/util/ImmutableCollections$ListItr", name := "<init>", desc := "(Ljava/util/List;I)V" } : Jvm.MethodName)).before a0 Z = true := hw _ (List.mem_of_getElem? (i := 106) rfl)
theorem wd108 {a0 : Array Value} {Z : State} (hw : ∀ d ∈ tables_1, d.before a0 Z = true) : (Jvm.Cond.code ({ cls := "java/util/ImmutableCollections$ListItr", name := "<init>", desc := "(Ljava/util/List;I)V" } : Jvm.MethodName) jdk_53_method_1_code (3 : Nat) (Option.none : Option Jvm.ClassFile.FieldType)).before a0 Z = true := hw _ (List.mem_of_getElem? (i := 108) rfl)
theorem wd109 {a0 : Array Value} {Z : State} (hw : ∀ d ∈ tables_1, d.before a0 Z = true) : (Jvm.Cond.methodLink "java/util/ImmutableCollections$ListItr" (1 : Nat) ({ cls := "java/lang/Object", name := "<init>", desc := "()V" } : Jvm.MethodName)).before a0 Z = true := hw _ (List.mem_of_getElem? (i := 109) rfl)
theorem wd110 {a0 : Array Value} {Z : State} (hw : ∀ d ∈ tables_1, d.before a0 Z = true) : (Jvm.Cond.fieldLink "java/util/ImmutableCollections$ListItr" (7 : Nat) "java/util/ImmutableCollections$ListItr" "list" "Ljava/util/List;").before a0 Z = true := hw _ (List.mem_of_getElem? (i := 110) rfl)
theorem wd111 {a0 : Array Value} {Z : State} (hw : ∀ d ∈ tables_1, d.before a0 Z = true) : (Jvm.Cond.laysFinal "java/util/ImmutableCollections$ListItr" "java/util/ImmutableCollections$ListItr" "list" "Ljava/util/List;").before a0 Z = true := hw _ (List.mem_of_getElem? (i := 111) rfl)
theorem wd112 {a0 : Array Value} {Z : State} (hw : ∀ d ∈ tables_1, d.before a0 Z = true) : (Jvm.Cond.fieldLink "java/util/ImmutableCollections$ListItr" (13 : Nat) "java/util/ImmutableCollections$ListItr" "size" "I").before a0 Z = true := hw _ (List.mem_of_getElem? (i := 112) rfl)
theorem wd113 {a0 : Array Value} {Z : State} (hw : ∀ d ∈ tables_1, d.before a0 Z = true) : (Jvm.Cond.laysFinal "java/util/ImmutableCollections$ListItr" "java/util/ImmutableCollections$ListItr" "size" "I").before a0 Z = true := hw _ (List.mem_of_getElem? (i := 113) rfl)
theorem wd114 {a0 : Array Value} {Z : State} (hw : ∀ d ∈ tables_1, d.before a0 Z = true) : (Jvm.Cond.fieldLink "java/util/ImmutableCollections$ListItr" (17 : Nat) "java/util/ImmutableCollections$ListItr" "cursor" "I").before a0 Z = true := hw _ (List.mem_of_getElem? (i := 114) rfl)
theorem wd115 {a0 : Array Value} {Z : State} (hw : ∀ d ∈ tables_1, d.before a0 Z = true) : (Jvm.Cond.lays "java/util/ImmutableCollections$ListItr" "java/util/ImmutableCollections$ListItr" "cursor" "I").before a0 Z = true := hw _ (List.mem_of_getElem? (i := 115) rfl)
theorem wd116 {a0 : Array Value} {Z : State} (hw : ∀ d ∈ tables_1, d.before a0 Z = true) : (Jvm.Cond.fieldLink "java/util/ImmutableCollections$ListItr" (20 : Nat) "java/util/ImmutableCollections$ListItr" "isListIterator" "Z").before a0 Z = true := hw _ (List.mem_of_getElem? (i := 116) rfl)
theorem wd117 {a0 : Array Value} {Z : State} (hw : ∀ d ∈ tables_1, d.before a0 Z = true) : (Jvm.Cond.laysFinal "java/util/ImmutableCollections$ListItr" "java/util/ImmutableCollections$ListItr" "isListIterator" "Z").before a0 Z = true := hw _ (List.mem_of_getElem? (i := 117) rfl)
theorem wd118 {a0 : Array Value} {Z : State} (hw : ∀ d ∈ tables_1, d.before a0 Z = true) : (Jvm.Cond.methodLink "com/example/endless_runs/endlessruns/automaton/Label" (112 : Nat) ({ cls := "java/util/Iterator", name := "hasNext", desc := "()Z" } : Jvm.MethodName)).before a0 Z = true := hw _ (List.mem_of_getElem? (i := 118) rfl)
theorem wd119 {a0 : Array Value} {Z : State} (hw : ∀ d ∈ tables_1, d.before a0 Z = true) : (Jvm.Cond.declares ({ cls := "java/util/Iterator", name := "hasNext", desc := "()Z" } : Jvm.MethodName)).before a0 Z = true := hw _ (List.mem_of_getElem? (i := 119) rfl)
theorem wd120 {a0 : Array Value} {Z : State} (hw : ∀ d ∈ tables_1, d.before a0 Z = true) : (Jvm.Cond.interfaceMethod "java/util/Iterator" "java/util/Iterator" "hasNext" "()Z").before a0 Z = true := hw _ (List.mem_of_getElem? (i := 120) rfl)
theorem wd121 {a0 : Array Value} {Z : State} (hw : ∀ d ∈ tables_1, d.before a0 Z = true) : (Jvm.Cond.selects "java/util/ImmutableCollections$ListItr" ({ cls := "java/util/Iterator", name := "hasNext", desc := "()Z" } : Jvm.MethodName) ({ cls := "java/util/ImmutableCollections$ListItr", name := "hasNext", desc := "()Z" } : Jvm.MethodName)).before a0 Z = true := hw _ (List.mem_of_getElem? (i := 121) rfl)
theorem wd122 {a0 : Array Value} {Z : State} (hw : ∀ d ∈ tables_1, d.before a0 Z = true) : (Jvm.Cond.instanceMethod ({ cls := "java/util/ImmutableCollections$ListItr", name := "hasNext", desc := "()Z" } : Jvm.MethodName)).before a0 Z = true := hw _ (List.mem_of_getElem? (i := 122) rfl)
theorem wd123 {a0 : Array Value} {Z : State} (hw : ∀ d ∈ tables_1, d.before a0 Z = true) : (Jvm.Cond.publicMethod ({ cls := "java/util/ImmutableCollections$ListItr", name := "hasNext", desc := "()Z" } : Jvm.MethodName)).before a0 Z = true := hw _ (List.mem_of_getElem? (i := 123) rfl)
theorem wd124 {a0 : Array Value} {Z : State} (hw : ∀ d ∈ tables_1, d.before a0 Z = true) : (Jvm.Cond.unhidden "java/util/ImmutableCollections$ListItr" "hasNext" "()Z").before a0 Z = true := hw _ (List.mem_of_getElem? (i := 124) rfl)
theorem wd125 {a0 : Array Value} {Z : State} (hw : ∀ d ∈ tables_1, d.before a0 Z = true) : (Jvm.Cond.castable "java/util/ImmutableCollections$ListItr" "java/util/Iterator").before a0 Z = true := hw _ (List.mem_of_getElem? (i := 125) rfl)
theorem wd126 {a0 : Array Value} {Z : State} (hw : ∀ d ∈ tables_1, d.before a0 Z = true) : (Jvm.Cond.code ({ cls := "java/util/ImmutableCollections$ListItr", name := "hasNext", desc := "()Z" } : Jvm.MethodName) jdk_53_method_3_code (1 : Nat) (Option.some Jvm.ClassFile.FieldType.boolean)).before a0 Z = true := hw _ (List.mem_of_getElem? (i := 126) rfl)
theorem wd127 {a0 : Array Value} {Z : State} (hw : ∀ d ∈ tables_1, d.before a0 Z = true) : (Jvm.Cond.methodLink "com/example/endless_runs/endlessruns/automaton/LabelPropositionPinLaw" (38 : Nat) ({ cls := "java/lang/String", name := "length", desc := "()I" } : Jvm.MethodName)).before a0 Z = true := hw _ (List.mem_of_getElem? (i := 127) rfl)
theorem wd128 {a0 : Array Value} {Z : State} (hw : ∀ d ∈ tables_1, d.before a0 Z = true) : (Jvm.Cond.declares ({ cls := "java/lang/String", name := "length", desc := "()I" } : Jvm.MethodName)).before a0 Z = true := hw _ (List.mem_of_getElem? (i := 128) rfl)
theorem wd129 {a0 : Array Value} {Z : State} (hw : ∀ d ∈ tables_1, d.before a0 Z = true) : (Jvm.Cond.instanceMethod ({ cls := "java/lang/String", name := "length", desc := "()I" } : Jvm.MethodName)).before a0 Z = true := hw _ (List.mem_of_getElem? (i := 129) rfl)
theorem wd130 {a0 : Array Value} {Z : State} (hw : ∀ d ∈ tables_1, d.before a0 Z = true) : (Jvm.Cond.selects "java/lang/String" ({ cls := "java/lang/String", name := "length", desc := "()I" } : Jvm.MethodName) ({ cls := "java/lang/String", name := "length", desc := "()I" } : Jvm.MethodName)).before a0 Z = true := hw _ (List.mem_of_getElem? (i := 130) rfl)
theorem wd131 {a0 : Array Value} {Z : State} (hw : ∀ d ∈ tables_1, d.before a0 Z = true) : (Jvm.Cond.code ({ cls := "java/lang/String", name := "length", desc := "()I" } : Jvm.MethodName) jdk_42_method_54_code (1 : Nat) (Option.some Jvm.ClassFile.FieldType.int)).before a0 Z = true := hw _ (List.mem_of_getElem? (i := 131) rfl)
theorem wd132 {a0 : Array Value} {Z : State} (hw : ∀ d ∈ tables_1, d.before a0 Z = true) : (Jvm.Cond.methodLink "java/lang/String" (335 : Nat) ({ cls := "java/lang/String", name := "coder", desc := "()B" } : Jvm.MethodName)).before a0 Z = true := hw _ (List.mem_of_getElem? (i := 132) rfl)
theorem wd133 {a0 : Array Value} {Z : State} (hw : ∀ d ∈ tables_1, d.before a0 Z = true) : (Jvm.Cond.declares ({ cls := "java/lang/String", name := "coder", desc := "()B" } : Jvm.MethodName)).before a0 Z = true := hw _ (List.mem_of_getElem? (i := 133) rfl)
theorem wd134 {a0 : Array Value} {Z : State} (hw : ∀ d ∈ tables_1, d.before a0 Z = true) : (Jvm.Cond.instanceMethod ({ cls := "java/lang/String", name := "coder", desc := "()B" } : Jvm.MethodName)).before a0 Z = true := hw _ (List.mem_of_getElem? (i := 134) rfl)
theorem wd135 {a0 : Array Value} {Z : State} (hw : ∀ d ∈ tables_1, d.before a0 Z = true) : (Jvm.Cond.selects "java/lang/String" ({ cls := "java/lang/String", name := "coder", desc := "()B" } : Jvm.MethodName) ({ cls := "java/lang/String", name := "coder", desc := "()B" } : Jvm.MethodName)).before a0 Z = true := hw _ (List.mem_of_getElem? (i := 135) rfl)
theorem wd136 {a0 : Array Value} {Z : State} (hw : ∀ d ∈ tables_1, d.before a0 Z = true) : (Jvm.Cond.code ({ cls := "java/lang/String", name := "coder", desc := "()B" } : Jvm.MethodName) jdk_42_method_152_code (1 : Nat) (Option.some Jvm.ClassFile.FieldType.byte)).before a0 Z = true := hw _ (List.mem_of_getElem? (i := 136) rfl)
theorem wd137 {a0 : Array Value} {Z : State} (hw : ∀ d ∈ tables_1, d.before a0 Z = true) : (Jvm.Cond.fieldLink "java/lang/String" (38 : Nat) "java/lang/String" "COMPACT_STRINGS" "Z").before a0 Z = true := hw _ (List.mem_of_getElem? (i := 137) rfl)
theorem wd138 {a0 : Array Value} {Z : State} (hw : ∀ d ∈ tables_1, d.before a0 Z = true) : (Jvm.Cond.methodLink "com/example/endless_runs/endlessruns/automaton/LabelPropositionPinLaw" (43 : Nat) ({ cls := "java/lang/String", name := "charAt", desc := "(I)C" } : Jvm.MethodName)).before a0 Z = true := hw _ (List.mem_of_getElem? (i := 138) rfl)
theorem wd139 {a0 : Array Value} {Z : State} (hw : ∀ d ∈ tables_1, d.before a0 Z = true) : (Jvm.Cond.declares ({ cls := "java/lang/String", name := "charAt", desc := "(I)C" } : Jvm.MethodName)).before a0 Z = true := hw _ (List.mem_of_getElem? (i := 139) rfl)
theorem wd140 {a0 : Array Value} {Z : State} (hw : ∀ d ∈ tables_1, d.before a0 Z = true) : (Jvm.Cond.instanceMethod ({ cls := "java/lang/String", name := "charAt", desc := "(I)C" } : Jvm.MethodName)).before a0 Z = true := hw _ (List.mem_of_getElem? (i := 140) rfl)
theorem wd141 {a0 : Array Value} {Z : State} (hw : ∀ d ∈ tables_1, d.before a0 Z = true) : (Jvm.Cond.selects "java/lang/String" ({ cls := "java/lang/String", name := "charAt", desc := "(I)C" } : Jvm.MethodName) ({ cls := "java/lang/String", name := "charAt", desc := "(I)C" } : Jvm.MethodName)).before a0 Z = true := hw _ (List.mem_of_getElem? (i := 141) rfl)
theorem wd142 {a0 : Array Value} {Z : State} (hw : ∀ d ∈ tables_1, d.before a0 Z = true) : (Jvm.Cond.code ({ cls := "java/lang/String", name := "charAt", desc := "(I)C" } : Jvm.MethodName) jdk_42_method_56_code (2 : Nat) (Option.some Jvm.ClassFile.FieldType.char)).before a0 Z = true := hw _ (List.mem_of_getElem? (i := 142) rfl)
theorem wd143 {a0 : Array Value} {Z : State} (hw : ∀ d ∈ tables_1, d.before a0 Z = true) : (Jvm.Cond.methodLink "java/lang/String" (492 : Nat) ({ cls := "java/lang/String", name := "isLatin1", desc := "()Z" } : Jvm.MethodName)).before a0 Z = true := hw _ (List.mem_of_getElem? (i := 143) rfl)
theorem wd144 {a0 : Array Value} {Z : State} (hw : ∀ d ∈ tables_1, d.before a0 Z = true) : (Jvm.Cond.declares ({ cls := "java/lang/String", name := "isLatin1", desc := "()Z" } : Jvm.MethodName)).before a0 Z = true := hw _ (List.mem_of_getElem? (i := 144) rfl)
theorem wd145 {a0 : Array Value} {Z : State} (hw : ∀ d ∈ tables_1, d.before a0 Z = true) : (Jvm.Cond.instanceMethod ({ cls := "java/lang/String", name := "isLatin1", desc := "()Z" } : Jvm.MethodName)).before a0 Z = true := hw _ (List.mem_of_getElem? (i := 145) rfl)
theorem wd146 {a0 : Array Value} {Z : State} (hw : ∀ d ∈ tables_1, d.before a0 Z = true) : (Jvm.Cond.selects "java/lang/String" ({ cls := "java/lang/String", name := "isLatin1", desc := "()Z" } : Jvm.MethodName) ({ cls := "java/lang/String", name := "isLatin1", desc := "()Z" } : Jvm.MethodName)).before a0 Z = true := hw _ (List.mem_of_getElem? (i := 146) rfl)
theorem wd147 {a0 : Array Value} {Z : State} (hw : ∀ d ∈ tables_1, d.before a0 Z = true) : (Jvm.Cond.code ({ cls := "java/lang/String", name := "isLatin1", desc := "()Z" } : Jvm.MethodName) jdk_42_method_154_code (1 : Nat) (Option.some Jvm.ClassFile.FieldType.boolean)).before a0 Z = true := hw _ (List.mem_of_getElem? (i := 147) rfl)
theorem wd148 {a0 : Array Value} {Z : State} (hw : ∀ d ∈ tables_1, d.before a0 Z = true) : (Jvm.Cond.methodLink "java/lang/String" (495 : Nat) ({ cls := "java/lang/StringLatin1", name := "charAt", desc := "([BI)C" } : Jvm.MethodName)).before a0 Z = true := hw _ (List.mem_of_getElem? (i := 148) rfl)
theorem wd149 {a0 : Array Value} {Z : State} (hw : ∀ d ∈ tables_1, d.before a0 Z = true) : (Jvm.Cond.static ({ cls := "java/lang/StringLatin1", name := "charAt", desc := "([BI)C" } : Jvm.MethodName)).before a0 Z = true := hw _ (List.mem_of_getElem? (i := 149) rfl)
theorem wd150 {a0 : Array Value} {Z : State} (hw : ∀ d ∈ tables_1, d.before a0 Z = true) : (Jvm.Cond.initialized "java/lang/StringLatin1").before a0 Z = true := hw _ (List.mem_of_getElem? (i := 150) rfl)
theorem wd151 {a0 : Array Value} {Z : State} (hw : ∀ d ∈ tables_1, d.before a0 Z = true) : (Jvm.Cond.code ({ cls := "java/lang/StringLatin1", name := "charAt", desc := "([BI)C" } : Jvm.MethodName) jdk_43_method_2_code (2 : Nat) (Option.some Jvm.ClassFile.FieldType.char)).before a0 Z = true := hw _ (List.mem_of_getElem? (i := 151) rfl)
theorem wd152 {a0 : Array Value} {Z : State} (hw : ∀ d ∈ tables_1, d.before a0 Z = true) : (Jvm.Cond.methodLink "java/lang/StringLatin1" (9 : Nat) ({ cls := "java/lang/String", name := "checkIndex", desc := "(II)V" } : Jvm.MethodName)).before a0 Z = true := hw _ (List.mem_of_getElem? (i := 152) rfl)
theorem wd153 {a0 : Array Value} {Z : State} (hw : ∀ d ∈ tables_1, d.before a0 Z = true) : (Jvm.Cond.static ({ cls := "java/lang/String", name := "checkIndex", desc := "(II)V" } : Jvm.MethodName)).before a0 Z = true := hw _ (List.mem_of_getElem? (i := 153) rfl)
theorem wd154 {a0 : Array Value} {Z : State} (hw : ∀ d ∈ tables_1, d.before a0 Z = true) : (Jvm.Cond.code ({ cls := "java/lang/String", name := "checkIndex", desc := "(II)V" } : Jvm.MethodName) jdk_42_method_155_code (2 : Nat) (Option.none : Option Jvm.ClassFile.FieldType)).before a0 Z = true := hw _ (List.mem_of_getElem? (i := 154) rfl)
theorem wd155 {a0 : Array Value} {Z : State} (hw : ∀ d ∈ tables_1, d.before a0 Z = true) : (Jvm.Cond.fieldLink "java/lang/String" (1053 : Nat) "jdk/internal/util/Preconditions" "SIOOBE_FORMATTER" "Ljava/util/function/BiFunction;").before a0 Z = true := hw _ (List.mem_of_getElem? (i := 155) rfl)
theorem wd156 {a0 : Array Value} {Z : State} (hw : ∀ d ∈ tables_1, d.before a0 Z = true) : (Jvm.Cond.initialized "jdk/internal/util/Preconditions").before a0 Z = true := hw _ (List.mem_of_getElem? (i := 156) rfl)
theorem wd157 {a0 : Array Value} {Z : State} (hw : ∀ d ∈ tables_1, d.before a0 Z = true) : (Jvm.Cond.methodLink "java/lang/String" (1059 : Nat) ({ cls := "jdk/internal/util/Preconditions", name := "checkIndex", desc := "(IILjava/util/function/BiFunction;)I" } : Jvm.MethodName)).before a0 Z = true := hw _ (List.mem_of_getElem? (i := 157) rfl)
theorem wd158 {a0 : Array Value} {Z : State} (hw : ∀ d ∈ tables_1, d.before a0 Z = true) : (Jvm.Cond.static ({ cls := "jdk/internal/util/Preconditions", name := "checkIndex", desc := "(IILjava/util/function/BiFunction;)I" } : Jvm.MethodName)).before a0 Z = true := hw _ (List.mem_of_getElem? (i := 158) rfl)
theorem wd159 {a0 : Array Value} {Z : State} (hw : ∀ d ∈ tables_1, d.before a0 Z = true) : (Jvm.Cond.code ({ cls := "jdk/internal/util/Preconditions", name := "checkIndex", desc := "(IILjava/util/function/BiFunction;)I" } : Jvm.MethodName) jdk_41_method_11_code (3 : Nat) (Option.some Jvm.ClassFile.FieldType.int)).before a0 Z = true := hw _ (List.mem_of_getElem? (i := 159) rfl)
theorem wd161 {a0 : Array Value} {Z : State} (hw : ∀ d ∈ tables_1, d.before a0 Z = true) : (Jvm.Cond.constant "com/example/endless_runs/endlessruns/automaton/LabelPropositionPinLaw" (47 : Nat) (100000 : Int32)).before a0 Z = true := hw _ (List.mem_of_getElem? (i := 161) rfl)
theorem wd162 {a0 : Array Value} {Z : State} (hw : ∀ d ∈ tables_1, d.before a0 Z = true) : (Jvm.Cond.constant "com/example/endless_runs/endlessruns/automaton/LabelPropositionPinLaw" (48 : Nat) (1000000 : Int32)).before a0 Z = true := hw _ (List.mem_of_getElem? (i := 162) rfl)
theorem wd163 {a0 : Array Value} {Z : State} (hw : ∀ d ∈ tables_1, d.before a0 Z = true) : (Jvm.Cond.constant "com/example/endless_runs/endlessruns/automaton/LabelPropositionPinLaw" (49 : Nat) (10000000 : Int32)).before a0 Z = true := hw _ (List.mem_of_getElem? (i := 163) rfl)
theorem wd164 {a0 : Array Value} {Z : State} (hw : ∀ d ∈ tables_1, d.before a0 Z = true) : (Jvm.Cond.constant "com/example/endless_runs/endlessruns/automaton/LabelPropositionPinLaw" (50 : Nat) (100000000 : Int32)).before a0 Z = true := hw _ (List.mem_of_getElem? (i := 164) rfl)
theorem wd165 {a0 : Array Value} {Z : State} (hw : ∀ d ∈ tables_1, d.before a0 Z = true) : (Jvm.Cond.constant "com/example/endless_runs/endlessruns/automaton/LabelPropositionPinLaw" (51 : Nat) (1000000000 : Int32)).before a0 Z = true := hw _ (List.mem_of_getElem? (i := 165) rfl)
theorem d_jdk_40_method_36_code_0 : decode jdk_40_method_36_code 0 = .ok (.getstatic 90, 3) := by decide +kernel
theorem d_jdk_40_method_36_code_3 : decode jdk_40_method_36_code 3 = .ok (.areturn, 1) := by decide +kernel
theorem pn_java_util_List : plainName "java/util/List" = true := by first | (simp [plainName, overriddenIn]; done) | decide +kernel
theorem ef_lof (mi : MethodId)  : entryFrame mi #[] 0 = mkF mi 0 #[] [] := by first | (simp [entryFrame, mkF, argsToLocals, Value.category]; done) | rfl
def Q_lof (Z : State) (w : Addr) (hE : Heap) (n0 : Nat) (vv : Option Value) (hh : Heap) (LL : List Loc) : Prop := (vv = some (.ref w)) ∧ (Fr n0 LL) ∧ (hh = hE)
set_option maxRecDepth 65536 in
set_option maxHeartbeats 40000000 in
theorem rm_lof (la : Launch) (Z : State) (a0 : Array Value) (hw : ∀ d ∈ tables_1, d.before a0 Z = true) (ws : List Jvm.Cond) (w : Addr) (hE : Heap) (n0 : Nat) (O : Old Z n0 hE) (D0_ : Sta Z Z.heap "java/util/ImmutableCollections" "EMPTY_LIST" "Ljava/util/ImmutableCollections$ListN;" (.ref w)) :
    MetFree la mn0 (head1 (Jvm.Cond.code mn0 jdk_40_method_36_code 0 (some (.object "java/util/List")) :: ws) ({ frames := 0, cells := 0, slots := 0, locals := 0 } : Room)) (fun aa UU => aa = #[] ∧ Z.Warmed39 UU.vm ∧ UU.heap = hE) (fun _ _ _ _ _ => True) (fun _ UU oo UV => ∃ vv LL, oo = .returned vv ∧ Q_lof Z w hE n0 vv UV.heap LL ∧ FrameEnd UU oo UV LL ({ frames := 0, cells := 0, slots := 0, locals := 0 } : Room).cells ({ frames := 0, cells := 0, slots := 0, locals := 0 } : Room).slots) := by
  refine MetFree.of_bodySF (plainFor_of_name pn_java_util_List) hisR ?_
  intro pg ev sb mi gs below me cd s₁ Bd hml0 hPt hKt
  obtain ⟨rfl, hZ, hh⟩ := hPt
  have hx := Bd.exec
  have hby := Bd.bytes
  have hml : cd.maxLocals = 0 := hml0
  have hown : sb.vm.findClass "java/util/List" = some mi.cls := findClass_of_methodNamed Bd.named
  have hnm := (name_of_methodNamed Bd.named Bd.method).1
  have X0 : Stand pg la ev ({ frames := 0, cells := 0, slots := 0, locals := 0 } : Room) sb mi #[] below me cd s₁ [] 0 0 := Stand.of_body Bd
  have eE : s₁.heap = hE := by rw [← hh, Bd.state]; rfl
  have N0 := Fr.nil n0
  have pre0 : ∀ tt, Steps pg.tables ev below (s₁.setTop (mkF mi 0 #[] [])) tt → Steps pg.tables ev below (s₁.setTop (entryFrame mi #[] 0)) tt := fun tt kk => castTop (ef_lof mi ) kk
  obtain ⟨T101, X101, e101, st101⟩ := getS2 X0 hx hZ hown (host := "") (Or.inl (wd14 hw)) Via.refl eE (D0_.ext O.2) (g := (mkF mi 0 #[] [])) rfl (hb hby d_jdk_40_method_36_code_0)
  obtain ⟨fs, hr, hrun, hended, hW, hsame⟩ := X101.leave (v := some (.ref w)) (fun hq => by rw [Bd.returns] at hq; cases hq)
  refine ⟨_, _, pre0 _ ?_, hrun, hended, _, _, rfl, ?_, ⟨_, rfl⟩, hW, hsame.mono (by decide) (by decide)⟩
  · show Steps pg.tables ev below (s₁.setTop (mkF mi 0 #[] [])) _
    refine st101 _ ?_
    show Steps pg.tables ev below (T101.setTop (mkF mi 3 #[] [(.ref w)])) _
    jvm_step X101.here [X101.here.top, hx, (hb hby d_jdk_40_method_36_code_3), X101.method', Bd.returns, Value.isRef, FieldType.isReference]
    first | (intro acts; rw [hr _ acts rfl rfl rfl]) | rw [hr _ _ rfl rfl rfl]
    exact Steps.refl _
  · show Q_lof Z w hE n0 _ T101.heap _
    rw [e101]
    exact ⟨rfl, N0, rfl⟩
theorem d_prog_19_method_1_code_0 : decode prog_19_method_1_code 0 = .ok (.aload_n 0, 1) := by decide +kernel
theorem d_prog_19_method_1_code_1 : decode prog_19_method_1_code 1 = .ok (.invokespecial 1, 3) := by decide +kernel
theorem d_prog_19_method_1_code_4 : decode prog_19_method_1_code 4 = .ok (.aload_n 0, 1) := by decide +kernel
theorem d_prog_19_method_1_code_5 : decode prog_19_method_1_code 5 = .ok (.aload_n 1, 1) := by decide +kernel
theorem d_prog_19_method_1_code_6 : decode prog_19_method_1_code 6 = .ok (.putfield 7, 3) := by decide +kernel
theorem d_prog_19_method_1_code_9 : decode prog_19_method_1_code 9 = .ok (.aload_n 0, 1) := by decide +kernel
theorem d_prog_19_method_1_code_10 : decode prog_19_method_1_code 10 = .ok (.iload_n 2, 1) := by decide +kernel
theorem d_prog_19_method_1_code_11 : decode prog_19_method_1_code 11 = .ok (.putfield 13, 3) := by decide +kernel
theorem d_prog_19_method_1_code_14 : decode prog_19_method_1_code 14 = .ok (.aload_n 0, 1) := by decide +kernel
theorem d_prog_19_method_1_code_15 : decode prog_19_method_1_code 15 = .ok (.aload_n 3, 1) := by decide +kernel
theorem d_prog_19_method_1_code_16 : decode prog_19_method_1_code 16 = .ok (.putfield 17, 3) := by decide +kernel
theorem d_prog_19_method_1_code_19 : decode prog_19_method_1_code 19 = .ok (.return_, 1) := by decide +kernel
theorem pn_com_example_endless_runs_endlessruns_automaton_Label : plainName "com/example/endless_runs/endlessruns/automaton/Label" = true := by first | (simp [plainName, overriddenIn]; done) | decide +kernel
theorem ef_lin (mi : MethodId) (a : Addr) (k : Addr) (p : Int32) (o : Addr) : entryFrame mi #[(.ref a), (.ref k), (.int p), (.ref o)] 4 = mkF mi 0 #[.val (.ref a), .val (.ref k), .val (.int p), .val (.ref o)] [] := by first | (simp [entryFrame, mkF, argsToLocals, Value.category]; done) | rfl
def Q_lin (Z : State) (a : Addr) (k : Addr) (p : Int32) (o : Addr) (hE : Heap) (n0 : Nat) (vv : Option Value) (hh : Heap) (LL : List Loc) : Prop := (vv = none) ∧ (Fr n0 LL) ∧ (Keep hE hh [a]) ∧ (Exa Z hh a "com/example/endless_runs/endlessruns/automaton/Label") ∧ (Fld Z hh a "com/example/endless_runs/endlessruns/automaton/Label" "kind" "Lcom/example/endless_runs/endlessruns/automaton/Label$Kind;" (.ref k)) ∧ (Fld Z hh a "com/example/endless_runs/endlessruns/automaton/Label" "proposition" "I" (.int p)) ∧ (Fld Z hh a "com/example/endless_runs/endlessruns/automaton/Label" "operands" "Ljava/util/List;" (.ref o))
set_option maxRecDepth 65536 in
set_option maxHeartbeats 40000000 in
theorem rm_lin (la : Launch) (Z : State) (a0 : Array Value) (hw : ∀ d ∈ tables_1, d.before a0 Z = true) (ws : List Jvm.Cond) (a : Addr) (k : Addr) (p : Int32) (o : Addr) (hE : Heap) (n0 : Nat) (O : Old Z n0 hE) (P0_ : Exa Z hE a "com/example/endless_runs/endlessruns/automaton/Label") (P1_ : Fld Z hE a "com/example/endless_runs/endlessruns/automaton/Label" "kind" "Lcom/example/endless_runs/endlessruns/automaton/Label$Kind;" .null) (P2_ : Fld Z hE a "com/example/endless_runs/endlessruns/automaton/Label" "proposition" "I" (.int (0 : Int32))) (P3_ : Fld Z hE a "com/example/endless_runs/endlessruns/automaton/Label" "operands" "Ljava/util/List;" .null) (g_a : n0 ≤ a) :
    MetFree la mn1 (head1 (Jvm.Cond.code mn1 prog_19_method_1_code 4 none :: ws) ({ frames := 1, cells := 0, slots := 0, locals := 12 } : Room)) (fun aa UU => aa = #[(.ref a), (.ref k), (.int p), (.ref o)] ∧ Z.Warmed39 UU.vm ∧ UU.heap = hE) (fun _ _ _ _ _ => True) (fun _ UU oo UV => ∃ vv LL, oo = .returned vv ∧ Q_lin Z a k p o hE n0 vv UV.heap LL ∧ FrameEnd UU oo UV LL ({ frames := 1, cells := 0, slots := 0, locals := 12 } : Room).cells ({ frames := 1, cells := 0, slots := 0, locals := 12 } : Room).slots) := by
  refine MetFree.of_bodySF (plainFor_of_name pn_com_example_endless_runs_endlessruns_automaton_Label) hisR ?_
  intro pg ev sb mi gs below me cd s₁ Bd hml0 hPt hKt
  obtain ⟨rfl, hZ, hh⟩ := hPt
  have hx := Bd.exec
  have hby := Bd.bytes
  have hml : cd.maxLocals = 4 := hml0
  have hown : sb.vm.findClass "com/example/endless_runs/endlessruns/automaton/Label" = some mi.cls := findClass_of_methodNamed Bd.named
  have hnm := (name_of_methodNamed Bd.named Bd.method).1
  have X0 : Stand pg la ev ({ frames := 1, cells := 0, slots := 0, locals := 12 } : Room) sb mi #[(.ref a), (.ref k), (.int p), (.ref o)] below me cd s₁ [] 0 0 := Stand.of_body Bd
  have eE : s₁.heap = hE := by rw [← hh, Bd.state]; rfl
  have N0 := Fr.nil n0
  have pre0 : ∀ tt, Steps pg.tables ev below (s₁.setTop (mkF mi 0 #[.val (.ref a), .val (.ref k), .val (.int p), .val (.ref o)] [])) tt → Steps pg.tables ev below (s₁.setTop (entryFrame mi #[(.ref a), (.ref k), (.int p), (.ref o)] 4)) tt := fun tt kk => castTop (ef_lin mi a k p o) kk
  obtain ⟨T101, X101, e101, st101⟩ := initO X0 hx hZ hown (wd19 hw) (wd20 hw) (wd21 hw) eE (g := (mkF mi 1 #[.val (.ref a), .val (.ref k), .val (.int p), .val (.ref o)] [(.ref a)])) rfl (by rw [hml]; rfl) rfl (hb hby d_prog_19_method_1_code_1) (by decide) (W := 0) (by show 2 * 0 + _ ≤ _; exact Nat.le_of_eq rfl) (by decide)
  obtain ⟨T102, h102, X102, e102, W102, st102⟩ := putF X101 hx hZ hown (host := "") (Or.inl (wd22 hw)) Via.refl e101 P1_ P0_ (Or.inr ⟨(wd23 hw), rfl, hnm⟩) (wd6 hw) (ty := (.object "com/example/endless_runs/endlessruns/automaton/Label$Kind")) (by decide) rfl rfl (g := (mkF mi 6 #[.val (.ref a), .val (.ref k), .val (.int p), .val (.ref o)] [(.ref k), (.ref a)])) rfl rfl (hb hby d_prog_19_method_1_code_6)
  have N102 := Fr.snoc X102 N0 g_a
  have f103 : Fld Z h102 a "com/example/endless_runs/endlessruns/automaton/Label" "kind" "Lcom/example/endless_runs/endlessruns/automaton/Label$Kind;" (.ref k) := P1_.same W102
  have f104 : Exa Z h102 a "com/example/endless_runs/endlessruns/automaton/Label" := (P0_.keep (Keep.of_wr W102))
  have f105 : Fld Z h102 a "com/example/endless_runs/endlessruns/automaton/Label" "proposition" "I" (.int (0 : Int32)) := (P2_.other W102 (Or.inr (slot_ne (Or.inr (wd25 hw)) (Or.inr (wd23 hw)) (by decide) (t := .int) (t' := (.object "com/example/endless_runs/endlessruns/automaton/Label$Kind")) (by decide) (by decide))))
  obtain ⟨T106, h106, X106, e106, W106, st106⟩ := putF X102 hx hZ hown (host := "") (Or.inl (wd24 hw)) Via.refl e102 f105 f104 (Or.inr ⟨(wd25 hw), rfl, hnm⟩) (wd6 hw) (ty := .int) (by decide) rfl rfl (g := (mkF mi 11 #[.val (.ref a), .val (.ref k), .val (.int p), .val (.ref o)] [(.int p), (.ref a)])) rfl rfl (hb hby d_prog_19_method_1_code_11)
  have N106 := Fr.snoc X106 N102 g_a
  have f107 : Fld Z h106 a "com/example/endless_runs/endlessruns/automaton/Label" "proposition" "I" (.int p) := f105.same W106
  have f108 : Exa Z h106 a "com/example/endless_runs/endlessruns/automaton/Label" := (f104.keep (Keep.of_wr W106))
  have f109 : Fld Z h106 a "com/example/endless_runs/endlessruns/automaton/Label" "operands" "Ljava/util/List;" .null := ((P3_.other W102 (Or.inr (slot_ne (Or.inr (wd27 hw)) (Or.inr (wd23 hw)) (by decide) (t := (.object "java/util/List")) (t' := (.object "com/example/endless_runs/endlessruns/automaton/Label$Kind")) (by decide) (by decide)))).other W106 (Or.inr (slot_ne (Or.inr (wd27 hw)) (Or.inr (wd25 hw)) (by decide) (t := (.object "java/util/List")) (t' := .int) (by decide) (by decide))))
  obtain ⟨T110, h110, X110, e110, W110, st110⟩ := putF X106 hx hZ hown (host := "") (Or.inl (wd26 hw)) Via.refl e106 f109 f108 (Or.inr ⟨(wd27 hw), rfl, hnm⟩) (wd6 hw) (ty := (.object "java/util/List")) (by decide) rfl rfl (g := (mkF mi 16 #[.val (.ref a), .val (.ref k), .val (.int p), .val (.ref o)] [(.ref o), (.ref a)])) rfl rfl (hb hby d_prog_19_method_1_code_16)
  have N110 := Fr.snoc X110 N106 g_a
  have f111 : Fld Z h110 a "com/example/endless_runs/endlessruns/automaton/Label" "operands" "Ljava/util/List;" (.ref o) := f109.same W110
  have f112 : Exa Z h110 a "com/example/endless_runs/endlessruns/automaton/Label" := (f108.keep (Keep.of_wr W110))
  have f113 : Fld Z h110 a "com/example/endless_runs/endlessruns/automaton/Label" "kind" "Lcom/example/endless_runs/endlessruns/automaton/Label$Kind;" (.ref k) := ((f103.other W106 (Or.inr (slot_ne (Or.inr (wd23 hw)) (Or.inr (wd25 hw)) (by decide) (t := (.object "com/example/endless_runs/endlessruns/automaton/Label$Kind")) (t' := .int) (by decide) (by decide)))).other W110 (Or.inr (slot_ne (Or.inr (wd23 hw)) (Or.inr (wd27 hw)) (by decide) (t := (.object "com/example/endless_runs/endlessruns/automaton/Label$Kind")) (t' := (.object "java/util/List")) (by decide) (by decide))))
  have f114 : Fld Z h110 a "com/example/endless_runs/endlessruns/automaton/Label" "proposition" "I" (.int p) := (f107.other W110 (Or.inr (slot_ne (Or.inr (wd25 hw)) (Or.inr (wd27 hw)) (by decide) (t := .int) (t' := (.object "java/util/List")) (by decide) (by decide))))
  obtain ⟨fs, hr, hrun, hended, hW, hsame⟩ := X110.leave (v := none) (fun _ => rfl)
  refine ⟨_, _, pre0 _ ?_, hrun, hended, _, _, rfl, ?_, ⟨_, rfl⟩, hW, hsame.mono (by decide) (by decide)⟩
  · show Steps pg.tables ev below (s₁.setTop (mkF mi 0 #[.val (.ref a), .val (.ref k), .val (.int p), .val (.ref o)] [])) _
    refine XS.aloadN X0.here hx rfl (hb hby d_prog_19_method_1_code_0) rfl rfl ?_
    show Steps pg.tables ev below (s₁.setTop (mkF mi 1 #[.val (.ref a), .val (.ref k), .val (.int p), .val (.ref o)] [(.ref a)])) _
    refine st101 _ ?_
    show Steps pg.tables ev below (T101.setTop (mkF mi 4 #[.val (.ref a), .val (.ref k), .val (.int p), .val (.ref o)] [])) _
    refine XS.aloadN X101.here hx rfl (hb hby d_prog_19_method_1_code_4) rfl rfl ?_
    show Steps pg.tables ev below (T101.setTop (mkF mi 5 #[.val (.ref a), .val (.ref k), .val (.int p), .val (.ref o)] [(.ref a)])) _
    refine XS.aloadN X101.here hx rfl (hb hby d_prog_19_method_1_code_5) rfl rfl ?_
    show Steps pg.tables ev below (T101.setTop (mkF mi 6 #[.val (.ref a), .val (.ref k), .val (.int p), .val (.ref o)] [(.ref k), (.ref a)])) _
    refine st102 _ ?_
    show Steps pg.tables ev below (T102.setTop (mkF mi 9 #[.val (.ref a), .val (.ref k), .val (.int p), .val (.ref o)] [])) _
    refine XS.aloadN X102.here hx rfl (hb hby d_prog_19_method_1_code_9) rfl rfl ?_
    show Steps pg.tables ev below (T102.setTop (mkF mi 10 #[.val (.ref a), .val (.ref k), .val (.int p), .val (.ref o)] [(.ref a)])) _
    refine XS.iloadN X102.here hx rfl (hb hby d_prog_19_method_1_code_10) rfl ?_
    show Steps pg.tables ev below (T102.setTop (mkF mi 11 #[.val (.ref a), .val (.ref k), .val (.int p), .val (.ref o)] [(.int p), (.ref a)])) _
    refine st106 _ ?_
    show Steps pg.tables ev below (T106.setTop (mkF mi 14 #[.val (.ref a), .val (.ref k), .val (.int p), .val (.ref o)] [])) _
    refine XS.aloadN X106.here hx rfl (hb hby d_prog_19_method_1_code_14) rfl rfl ?_
    show Steps pg.tables ev below (T106.setTop (mkF mi 15 #[.val (.ref a), .val (.ref k), .val (.int p), .val (.ref o)] [(.ref a)])) _
    refine XS.aloadN X106.here hx rfl (hb hby d_prog_19_method_1_code_15) rfl rfl ?_
    show Steps pg.tables ev below (T106.setTop (mkF mi 16 #[.val (.ref a), .val (.ref k), .val (.int p), .val (.ref o)] [(.ref o), (.ref a)])) _
    refine st110 _ ?_
    show Steps pg.tables ev below (T110.setTop (mkF mi 19 #[.val (.ref a), .val (.ref k), .val (.int p), .val (.ref o)] [])) _
    exact X110.returnOut hx Bd.returns (hb hby d_prog_19_method_1_code_19) hr
  · show Q_lin Z a k p o hE n0 _ T110.heap _
    rw [e110]
    exact ⟨rfl, N110, ((((Keep.refl hE [a]).trans (Keep.of_wr W102) (allS (Or.inl (List.mem_of_getElem? (i := 0) rfl)) all0)).trans (Keep.of_wr W106) (allS (Or.inl (List.mem_of_getElem? (i := 0) rfl)) all0)).trans (Keep.of_wr W110) (allS (Or.inl (List.mem_of_getElem? (i := 0) rfl)) all0)), f112, f113, f114, f111⟩
theorem d_prog_19_method_2_code_0 : decode prog_19_method_2_code 0 = .ok (.iload_n 0, 1) := by decide +kernel
theorem d_prog_19_method_2_code_1 : decode prog_19_method_2_code 1 = .ok (.ifCond .ge 17, 3) := by decide +kernel
theorem d_prog_19_method_2_code_18 : decode prog_19_method_2_code 18 = .ok (.new 8, 3) := by decide +kernel
theorem d_prog_19_method_2_code_21 : decode prog_19_method_2_code 21 = .ok (.dup, 1) := by decide +kernel
theorem d_prog_19_method_2_code_22 : decode prog_19_method_2_code 22 = .ok (.getstatic 30, 3) := by decide +kernel
theorem d_prog_19_method_2_code_25 : decode prog_19_method_2_code 25 = .ok (.iload_n 0, 1) := by decide +kernel
theorem d_prog_19_method_2_code_26 : decode prog_19_method_2_code 26 = .ok (.invokestatic 35, 3) := by decide +kernel
theorem d_prog_19_method_2_code_29 : decode prog_19_method_2_code 29 = .ok (.invokespecial 41, 3) := by decide +kernel
theorem d_prog_19_method_2_code_32 : decode prog_19_method_2_code 32 = .ok (.areturn, 1) := by decide +kernel
theorem pd_0 : parseMethodDescriptor "()Ljava/util/List;" = some ⟨[], some (.object "java/util/List")⟩ := by decide +kernel
theorem pd_1 : parseMethodDescriptor "(Lcom/example/endless_runs/endlessruns/automaton/Label$Kind;ILjava/util/List;)V" = some ⟨[(.object "com/example/endless_runs/endlessruns/automaton/Label$Kind"), .int, (.object "java/util/List")], none⟩ := by decide +kernel
theorem ef_pro (mi : MethodId) (p : Int32) : entryFrame mi #[(.int p)] 1 = mkF mi 0 #[.val (.int p)] [] := by first | (simp [entryFrame, mkF, argsToLocals, Value.category]; done) | rfl
def Q_pro (Z : State) (p : Int32) (k : Addr) (w : Addr) (hE : Heap) (n0 : Nat) (vv : Option Value) (hh : Heap) (LL : List Loc) : Prop := ∃ b : Addr, (vv = some (.ref b)) ∧ (Fr n0 LL) ∧ (Keep hE hh []) ∧ (hE.size ≤ b) ∧ (Exa Z hh b "com/example/endless_runs/endlessruns/automaton/Label") ∧ (Fld Z hh b "com/example/endless_runs/endlessruns/automaton/Label" "kind" "Lcom/example/endless_runs/endlessruns/automaton/Label$Kind;" (.ref k)) ∧ (Fld Z hh b "com/example/endless_runs/endlessruns/automaton/Label" "proposition" "I" (.int p)) ∧ (Fld Z hh b "com/example/endless_runs/endlessruns/automaton/Label" "operands" "Ljava/util/List;" (.ref w))
set_option maxRecDepth 65536 in
set_option maxHeartbeats 40000000 in
theorem rm_pro (la : Launch) (Z : State) (a0 : Array Value) (hw : ∀ d ∈ tables_1, d.before a0 Z = true) (ws : List Jvm.Cond) (p : Int32) (k : Addr) (w : Addr) (hE : Heap) (n0 : Nat) (O : Old Z n0 hE) (D0_ : Sta Z Z.heap "com/example/endless_runs/endlessruns/automaton/Label$Kind" "PROPOSITION" "Lcom/example/endless_runs/endlessruns/automaton/Label$Kind;" (.ref k)) (D1_ : Sta Z Z.heap "java/util/ImmutableCollections" "EMPTY_LIST" "Ljava/util/ImmutableCollections$ListN;" (.ref w)) (hp : ¬ (p < (0 : Int32))) :
    MetFree la mn2 (head1 (Jvm.Cond.code mn2 prog_19_method_2_code 1 (some (.object "com/example/endless_runs/endlessruns/automaton/Label")) :: ws) ({ frames := 2, cells := 1, slots := 3, locals := 28 } : Room)) (fun aa UU => aa = #[(.int p)] ∧ Z.Warmed39 UU.vm ∧ UU.heap = hE) (fun _ _ _ _ _ => True) (fun _ UU oo UV => ∃ vv LL, oo = .returned vv ∧ Q_pro Z p k w hE n0 vv UV.heap LL ∧ FrameEnd UU oo UV LL ({ frames := 2, cells := 1, slots := 3, locals := 28 } : Room).cells ({ frames := 2, cells := 1, slots := 3, locals := 28 } : Room).slots) := by
  refine MetFree.of_bodySF (plainFor_of_name pn_com_example_endless_runs_endlessruns_automaton_Label) hisR ?_
  intro pg ev sb mi gs below me cd s₁ Bd hml0 hPt hKt
  obtain ⟨rfl, hZ, hh⟩ := hPt
  have hx := Bd.exec
  have hby := Bd.bytes
  have hml : cd.maxLocals = 1 := hml0
  have hown : sb.vm.findClass "com/example/endless_runs/endlessruns/automaton/Label" = some mi.cls := findClass_of_methodNamed Bd.named
  have hnm := (name_of_methodNamed Bd.named Bd.method).1
  have X0 : Stand pg la ev ({ frames := 2, cells := 1, slots := 3, locals := 28 } : Room) sb mi #[(.int p)] below me cd s₁ [] 0 0 := Stand.of_body Bd
  have eE : s₁.heap = hE := by rw [← hh, Bd.state]; rfl
  have N0 := Fr.nil n0
  have pre0 : ∀ tt, Steps pg.tables ev below (s₁.setTop (mkF mi 0 #[.val (.int p)] [])) tt → Steps pg.tables ev below (s₁.setTop (entryFrame mi #[(.int p)] 1)) tt := fun tt kk => castTop (ef_pro mi p) kk
  obtain ⟨T101, h101, X101, e101, E101, A101, D101, -, st101⟩ := newO X0 hx hZ hown (wd5 hw) (wd6 hw) (wd3 hw) eE (g := (mkF mi 18 #[.val (.int p)] [])) rfl (hb hby d_prog_19_method_2_code_18) (by decide) (by decide)
  obtain ⟨b101, q101⟩ : ∃ z, z = hE.size := ⟨_, rfl⟩
  rw [← q101] at A101 D101 st101
  have f102 : Fld Z h101 b101 "com/example/endless_runs/endlessruns/automaton/Label" "kind" "Lcom/example/endless_runs/endlessruns/automaton/Label$Kind;" .null := D101 (Or.inr (wd23 hw)) (ty := (.object "com/example/endless_runs/endlessruns/automaton/Label$Kind")) (by decide)
  have f103 : Fld Z h101 b101 "com/example/endless_runs/endlessruns/automaton/Label" "proposition" "I" (.int (0 : Int32)) := D101 (Or.inr (wd25 hw)) (ty := .int) (by decide)
  have f104 : Fld Z h101 b101 "com/example/endless_runs/endlessruns/automaton/Label" "operands" "Ljava/util/List;" .null := D101 (Or.inr (wd27 hw)) (ty := (.object "java/util/List")) (by decide)
  have O105 : Old Z n0 h101 := (O.ext E101)
  obtain ⟨T106, X106, e106, st106⟩ := getS2 X101 hx hZ hown (host := "") (Or.inl (wd7 hw)) Via.refl e101 (D0_.ext O105.2) (g := (mkF mi 22 #[.val (.int p)] [(.ref b101), (.ref b101)])) rfl (hb hby d_prog_19_method_2_code_22)
  obtain ⟨v107, _, ⟨T107, L107, k107, n107⟩, -, X107, ⟨Lc107, hQ107, l107, y107, z107⟩, st107⟩ := Jvm.LawKit.callS X106 hx (y := mn0) hown (mvT hZ (wd10 hw)) (mvT hZ (wd11 hw)) (mvT hZ (wd12 hw)) (mvT hZ (wd13 hw)) (by decide) (backOf (W := 4) (rm_lof la Z a0 hw [] w h101 n0 O105 D1_) hZ (wd13 hw) (wd12 hw) (by decide) (by decide)) (g := (mkF mi 26 #[.val (.int p)] [(.int p), (.ref k), (.ref b101), (.ref b101)])) rfl (by rw [hml]; rfl) (argsL := []) (rest := [(.int p), (.ref k), (.ref b101), (.ref b101)]) (lenOf pd_0 rfl) rfl (by show 2 * 0 + _ ≤ _; exact Nat.le_of_eq rfl) (hb hby d_prog_19_method_2_code_26) (fun _ _ => ⟨rfl, e106, (by decide : 1 + 0 ≤ _), (by decide : 3 + 0 ≤ _)⟩)
  dsimp only [Pt.U, Pt.locs, Pt.cells, Pt.slots] at X107 l107 y107 z107 st107 hQ107
  subst l107 y107 z107
  obtain ⟨rfl, Nq107, ek107⟩ := hQ107
  have N107 := Fr.app N0 Nq107
  have g_b101 : n0 ≤ b101 := Nat.le_trans (Nat.le_trans (Nat.le_of_eq O.1.symm) O.2.1) (Nat.le_of_eq q101.symm)
  obtain ⟨v108, _, ⟨T108, L108, k108, n108⟩, -, X108, ⟨Lc108, hQ108, l108, y108, z108⟩, st108⟩ := X107.specialBack hx (y := mn1) rfl hown (mvT hZ (wd16 hw)) (mvT hZ (wd17 hw)) (mvT hZ (wd18 hw)) (by decide) (backOf (W := 1) (rm_lin la Z a0 hw [] b101 k p w h101 n0 O105 A101 f102 f103 f104 g_b101) hZ (wd18 hw) (wd3 hw) (by decide) (by decide)) (g := (mkF mi 29 #[.val (.int p)] [(.ref w), (.int p), (.ref k), (.ref b101), (.ref b101)])) rfl (by rw [hml]; rfl) (Steps.refl _) (a := b101) (argsL := [(.ref k), (.int p), (.ref w)]) (rest := [(.ref b101)]) (lenOf pd_1 rfl) rfl (by show 2 * 0 + _ ≤ _; exact Nat.le_of_eq rfl) (hb hby d_prog_19_method_2_code_29) (fun _ _ => ⟨rfl, ek107, (by decide : 1 + 0 ≤ _), (by decide : 3 + 0 ≤ _)⟩)
  dsimp only [Pt.U, Pt.locs, Pt.cells, Pt.slots] at X108 l108 y108 z108 st108 hQ108
  subst l108 y108 z108
  obtain ⟨rfl, Nq108, Kq108, r108_0, r108_1, r108_2, r108_3⟩ := hQ108
  have N108 := Fr.app N107 Nq108
  obtain ⟨fs, hr, hrun, hended, hW, hsame⟩ := X108.leave (v := some (.ref b101)) (fun hq => by rw [Bd.returns] at hq; cases hq)
  refine ⟨_, _, pre0 _ ?_, hrun, hended, _, _, rfl, ?_, ⟨_, rfl⟩, hW, hsame.mono (by decide) (by decide)⟩
  · show Steps pg.tables ev below (s₁.setTop (mkF mi 0 #[.val (.int p)] [])) _
    refine XS.iloadN X0.here hx rfl (hb hby d_prog_19_method_2_code_0) rfl ?_
    show Steps pg.tables ev below (s₁.setTop (mkF mi 1 #[.val (.int p)] [(.int p)])) _
    refine XS.ifYes X0.here hx rfl (pc0 := 1) (pc' := 18) rfl (hb hby d_prog_19_method_2_code_1) rfl ((if0 _ _).trans (flt hp).2.1) (by decide) (by decide) ?_
    show Steps pg.tables ev below (s₁.setTop (mkF mi 18 #[.val (.int p)] [])) _
    refine st101 _ ?_
    show Steps pg.tables ev below (T101.setTop (mkF mi 21 #[.val (.int p)] [(.ref b101)])) _
    refine XS.dup X101.here hx rfl (hb hby d_prog_19_method_2_code_21) rfl rfl ?_
    show Steps pg.tables ev below (T101.setTop (mkF mi 22 #[.val (.int p)] [(.ref b101), (.ref b101)])) _
    refine st106 _ ?_
    show Steps pg.tables ev below (T106.setTop (mkF mi 25 #[.val (.int p)] [(.ref k), (.ref b101), (.ref b101)])) _
    refine XS.iloadN X106.here hx rfl (hb hby d_prog_19_method_2_code_25) rfl ?_
    show Steps pg.tables ev below (T106.setTop (mkF mi 26 #[.val (.int p)] [(.int p), (.ref k), (.ref b101), (.ref b101)])) _
    refine st107 _ ?_
    show Steps pg.tables ev below (T107.setTop (mkF mi 29 #[.val (.int p)] [(.ref w), (.int p), (.ref k), (.ref b101), (.ref b101)])) _
    refine st108.trans ?_
    show Steps pg.tables ev below (T108.setTop (mkF mi 32 #[.val (.int p)] [(.ref b101)])) _
    jvm_step X108.here [X108.here.top, hx, (hb hby d_prog_19_method_2_code_32), X108.method', Bd.returns, Value.isRef, FieldType.isReference]
    first | (intro acts; rw [hr _ acts rfl rfl rfl]) | rw [hr _ _ rfl rfl rfl]
    exact Steps.refl _
  · show Q_pro Z p k w hE n0 _ T108.heap _
    exact ⟨b101, rfl, N108, (((Keep.refl hE []).ext E101).trans Kq108 (allS (Or.inr (Nat.le_of_eq q101.symm)) all0)), (Nat.le_of_eq q101.symm), r108_0, r108_1, r108_2, r108_3⟩
theorem d_jdk_37_method_2_code_0 : decode jdk_37_method_2_code 0 = .ok (.aload_n 0, 1) := by decide +kernel
theorem d_jdk_37_method_2_code_1 : decode jdk_37_method_2_code 1 = .ok (.getfield 7, 3) := by decide +kernel
theorem d_jdk_37_method_2_code_4 : decode jdk_37_method_2_code 4 = .ok (.ireturn, 1) := by decide +kernel
theorem pn_java_lang_Enum : plainName "java/lang/Enum" = true := by first | (simp [plainName, overriddenIn]; done) | decide +kernel
theorem ef_ordi (mi : MethodId) (a : Addr) : entryFrame mi #[(.ref a)] 1 = mkF mi 0 #[.val (.ref a)] [] := by first | (simp [entryFrame, mkF, argsToLocals, Value.category]; done) | rfl
def Q_ordi (Z : State) (a : Addr) (z : Int32) (hE : Heap) (n0 : Nat) (vv : Option Value) (hh : Heap) (LL : List Loc) : Prop := (vv = some (.int z)) ∧ (Fr n0 LL) ∧ (hh = hE)
set_option maxRecDepth 65536 in
set_option maxHeartbeats 40000000 in
theorem rm_ordi (la : Launch) (Z : State) (a0 : Array Value) (hw : ∀ d ∈ tables_1, d.before a0 Z = true) (ws : List Jvm.Cond) (a : Addr) (z : Int32) (hE : Heap) (n0 : Nat) (O : Old Z n0 hE) (P0_ : Fld Z hE a "java/lang/Enum" "ordinal" "I" (.int z)) :
    MetFree la mn3 (head1 (Jvm.Cond.code mn3 jdk_37_method_2_code 1 (some .int) :: ws) ({ frames := 0, cells := 0, slots := 0, locals := 0 } : Room)) (fun aa UU => aa = #[(.ref a)] ∧ Z.Warmed39 UU.vm ∧ UU.heap = hE) (fun _ _ _ _ _ => True) (fun _ UU oo UV => ∃ vv LL, oo = .returned vv ∧ Q_ordi Z a z hE n0 vv UV.heap LL ∧ FrameEnd UU oo UV LL ({ frames := 0, cells := 0, slots := 0, locals := 0 } : Room).cells ({ frames := 0, cells := 0, slots := 0, locals := 0 } : Room).slots) := by
  refine MetFree.of_bodySF (plainFor_of_name pn_java_lang_Enum) hisR ?_
  intro pg ev sb mi gs below me cd s₁ Bd hml0 hPt hKt
  obtain ⟨rfl, hZ, hh⟩ := hPt
  have hx := Bd.exec
  have hby := Bd.bytes
  have hml : cd.maxLocals = 1 := hml0
  have hown : sb.vm.findClass "java/lang/Enum" = some mi.cls := findClass_of_methodNamed Bd.named
  have hnm := (name_of_methodNamed Bd.named Bd.method).1
  have X0 : Stand pg la ev ({ frames := 0, cells := 0, slots := 0, locals := 0 } : Room) sb mi #[(.ref a)] below me cd s₁ [] 0 0 := Stand.of_body Bd
  have eE : s₁.heap = hE := by rw [← hh, Bd.state]; rfl
  have N0 := Fr.nil n0
  have pre0 : ∀ tt, Steps pg.tables ev below (s₁.setTop (mkF mi 0 #[.val (.ref a)] [])) tt → Steps pg.tables ev below (s₁.setTop (entryFrame mi #[(.ref a)] 1)) tt := fun tt kk => castTop (ef_ordi mi a) kk
  obtain ⟨T101, X101, e101, st101⟩ := getF X0 hx hZ hown (host := "") (Or.inl (wd40 hw)) Via.refl eE P0_ (g := (mkF mi 1 #[.val (.ref a)] [(.ref a)])) rfl rfl (hb hby d_jdk_37_method_2_code_1)
  obtain ⟨fs, hr, hrun, hended, hW, hsame⟩ := X101.leave (v := some (.int z)) (fun hq => by rw [Bd.returns] at hq; cases hq)
  refine ⟨_, _, pre0 _ ?_, hrun, hended, _, _, rfl, ?_, ⟨_, rfl⟩, hW, hsame.mono (by decide) (by decide)⟩
  · show Steps pg.tables ev below (s₁.setTop (mkF mi 0 #[.val (.ref a)] [])) _
    refine XS.aloadN X0.here hx rfl (hb hby d_jdk_37_method_2_code_0) rfl rfl ?_
    show Steps pg.tables ev below (s₁.setTop (mkF mi 1 #[.val (.ref a)] [(.ref a)])) _
    refine st101 _ ?_
    show Steps pg.tables ev below (T101.setTop (mkF mi 4 #[.val (.ref a)] [(.int z)])) _
    exact retI X101 hx Bd.returns (hb hby d_jdk_37_method_2_code_4) hr
  · show Q_ordi Z a z hE n0 _ T101.heap _
    rw [e101]
    exact ⟨rfl, N0, rfl⟩
theorem d_jdk_42_method_151_code_0 : decode jdk_42_method_151_code 0 = .ok (.aload_n 0, 1) := by decide +kernel
theorem d_jdk_42_method_151_code_1 : decode jdk_42_method_151_code 1 = .ok (.invokespecial 1, 3) := by decide +kernel
theorem d_jdk_42_method_151_code_4 : decode jdk_42_method_151_code 4 = .ok (.aload_n 0, 1) := by decide +kernel
theorem d_jdk_42_method_151_code_5 : decode jdk_42_method_151_code 5 = .ok (.aload_n 1, 1) := by decide +kernel
theorem d_jdk_42_method_151_code_6 : decode jdk_42_method_151_code 6 = .ok (.putfield 9, 3) := by decide +kernel
theorem d_jdk_42_method_151_code_9 : decode jdk_42_method_151_code 9 = .ok (.aload_n 0, 1) := by decide +kernel
theorem d_jdk_42_method_151_code_10 : decode jdk_42_method_151_code 10 = .ok (.iload_n 2, 1) := by decide +kernel
theorem d_jdk_42_method_151_code_11 : decode jdk_42_method_151_code 11 = .ok (.putfield 15, 3) := by decide +kernel
theorem d_jdk_42_method_151_code_14 : decode jdk_42_method_151_code 14 = .ok (.return_, 1) := by decide +kernel
theorem pn_java_lang_String : plainName "java/lang/String" = true := by first | (simp [plainName, overriddenIn]; done) | decide +kernel
theorem ef_sin (mi : MethodId) (a : Addr) (t : Addr) : entryFrame mi #[(.ref a), (.ref t), (.int (0 : Int32))] 3 = mkF mi 0 #[.val (.ref a), .val (.ref t), .val (.int (0 : Int32))] [] := by first | (simp [entryFrame, mkF, argsToLocals, Value.category]; done) | rfl
def Q_sin (Z : State) (a : Addr) (t : Addr) (hE : Heap) (n0 : Nat) (vv : Option Value) (hh : Heap) (LL : List Loc) : Prop := (vv = none) ∧ (Fr n0 LL) ∧ (Keep hE hh [a]) ∧ (Exa Z hh a "java/lang/String") ∧ (Fld Z hh a "java/lang/String" "value" "[B" (.ref t)) ∧ (Fld Z hh a "java/lang/String" "coder" "B" (.int (0 : Int32)))
set_option maxRecDepth 65536 in
set_option maxHeartbeats 40000000 in
theorem rm_sin (la : Launch) (Z : State) (a0 : Array Value) (hw : ∀ d ∈ tables_1, d.before a0 Z = true) (ws : List Jvm.Cond) (a : Addr) (t : Addr) (hE : Heap) (n0 : Nat) (O : Old Z n0 hE) (P0_ : Exa Z hE a "java/lang/String") (P1_ : Fld Z hE a "java/lang/String" "value" "[B" .null) (P2_ : Fld Z hE a "java/lang/String" "coder" "B" (.int (0 : Int32))) (g_a : n0 ≤ a) :
    MetFree la mn4 (head1 (Jvm.Cond.code mn4 jdk_42_method_151_code 3 none :: ws) ({ frames := 1, cells := 0, slots := 0, locals := 12 } : Room)) (fun aa UU => aa = #[(.ref a), (.ref t), (.int (0 : Int32))] ∧ Z.Warmed39 UU.vm ∧ UU.heap = hE) (fun _ _ _ _ _ => True) (fun _ UU oo UV => ∃ vv LL, oo = .returned vv ∧ Q_sin Z a t hE n0 vv UV.heap LL ∧ FrameEnd UU oo UV LL ({ frames := 1, cells := 0, slots := 0, locals := 12 } : Room).cells ({ frames := 1, cells := 0, slots := 0, locals := 12 } : Room).slots) := by
  refine MetFree.of_bodySF (plainFor_of_name pn_java_lang_String) hisR ?_
  intro pg ev sb mi gs below me cd s₁ Bd hml0 hPt hKt
  obtain ⟨rfl, hZ, hh⟩ := hPt
  have hx := Bd.exec
  have hby := Bd.bytes
  have hml : cd.maxLocals = 3 := hml0
  have hown : sb.vm.findClass "java/lang/String" = some mi.cls := findClass_of_methodNamed Bd.named
  have hnm := (name_of_methodNamed Bd.named Bd.method).1
  have X0 : Stand pg la ev ({ frames := 1, cells := 0, slots := 0, locals := 12 } : Room) sb mi #[(.ref a), (.ref t), (.int (0 : Int32))] below me cd s₁ [] 0 0 := Stand.of_body Bd
  have eE : s₁.heap = hE := by rw [← hh, Bd.state]; rfl
  have N0 := Fr.nil n0
  have pre0 : ∀ tt, Steps pg.tables ev below (s₁.setTop (mkF mi 0 #[.val (.ref a), .val (.ref t), .val (.int (0 : Int32))] [])) tt → Steps pg.tables ev below (s₁.setTop (entryFrame mi #[(.ref a), (.ref t), (.int (0 : Int32))] 3)) tt := fun tt kk => castTop (ef_sin mi a t) kk
  obtain ⟨T101, X101, e101, st101⟩ := initO X0 hx hZ hown (wd62 hw) (wd20 hw) (wd21 hw) eE (g := (mkF mi 1 #[.val (.ref a), .val (.ref t), .val (.int (0 : Int32))] [(.ref a)])) rfl (by rw [hml]; rfl) rfl (hb hby d_jdk_42_method_151_code_1) (by decide) (W := 0) (by show 2 * 0 + _ ≤ _; exact Nat.le_of_eq rfl) (by decide)
  obtain ⟨T102, h102, X102, e102, W102, st102⟩ := putF X101 hx hZ hown (host := "") (Or.inl (wd63 hw)) Via.refl e101 P1_ P0_ (Or.inr ⟨(wd64 hw), rfl, hnm⟩) (wd57 hw) (ty := (.array .byte)) (by decide) rfl rfl (g := (mkF mi 6 #[.val (.ref a), .val (.ref t), .val (.int (0 : Int32))] [(.ref t), (.ref a)])) rfl rfl (hb hby d_jdk_42_method_151_code_6)
  have N102 := Fr.snoc X102 N0 g_a
  have f103 : Fld Z h102 a "java/lang/String" "value" "[B" (.ref t) := P1_.same W102
  have f104 : Exa Z h102 a "java/lang/String" := (P0_.keep (Keep.of_wr W102))
  have f105 : Fld Z h102 a "java/lang/String" "coder" "B" (.int (0 : Int32)) := (P2_.other W102 (Or.inr (slot_ne (Or.inr (wd66 hw)) (Or.inr (wd64 hw)) (by decide) (t := .byte) (t' := (.array .byte)) (by decide) (by decide))))
  obtain ⟨T106, h106, X106, e106, W106, st106⟩ := putFN X102 hx hZ hown (wd65 hw) Via.refl e102 f105 f104 (Or.inr ⟨(wd66 hw), rfl, hnm⟩) (wd57 hw) (ty := .byte) (v' := (.int (0 : Int32))) (by decide) rfl rfl (g := (mkF mi 11 #[.val (.ref a), .val (.ref t), .val (.int (0 : Int32))] [(.int (0 : Int32)), (.ref a)])) rfl rfl (hb hby d_jdk_42_method_151_code_11)
  have N106 := Fr.snoc X106 N102 g_a
  have f107 : Fld Z h106 a "java/lang/String" "coder" "B" (.int (0 : Int32)) := f105.same W106
  have f108 : Exa Z h106 a "java/lang/String" := (f104.keep (Keep.of_wr W106))
  have f109 : Fld Z h106 a "java/lang/String" "value" "[B" (.ref t) := (f103.other W106 (Or.inr (slot_ne (Or.inr (wd64 hw)) (Or.inr (wd66 hw)) (by decide) (t := (.array .byte)) (t' := .byte) (by decide) (by decide))))
  obtain ⟨fs, hr, hrun, hended, hW, hsame⟩ := X106.leave (v := none) (fun _ => rfl)
  refine ⟨_, _, pre0 _ ?_, hrun, hended, _, _, rfl, ?_, ⟨_, rfl⟩, hW, hsame.mono (by decide) (by decide)⟩
  · show Steps pg.tables ev below (s₁.setTop (mkF mi 0 #[.val (.ref a), .val (.ref t), .val (.int (0 : Int32))] [])) _
    refine XS.aloadN X0.here hx rfl (hb hby d_jdk_42_method_151_code_0) rfl rfl ?_
    show Steps pg.tables ev below (s₁.setTop (mkF mi 1 #[.val (.ref a), .val (.ref t), .val (.int (0 : Int32))] [(.ref a)])) _
    refine st101 _ ?_
    show Steps pg.tables ev below (T101.setTop (mkF mi 4 #[.val (.ref a), .val (.ref t), .val (.int (0 : Int32))] [])) _
    refine XS.aloadN X101.here hx rfl (hb hby d_jdk_42_method_151_code_4) rfl rfl ?_
    show Steps pg.tables ev below (T101.setTop (mkF mi 5 #[.val (.ref a), .val (.ref t), .val (.int (0 : Int32))] [(.ref a)])) _
    refine XS.aloadN X101.here hx rfl (hb hby d_jdk_42_method_151_code_5) rfl rfl ?_
    show Steps pg.tables ev below (T101.setTop (mkF mi 6 #[.val (.ref a), .val (.ref t), .val (.int (0 : Int32))] [(.ref t), (.ref a)])) _
    refine st102 _ ?_
    show Steps pg.tables ev below (T102.setTop (mkF mi 9 #[.val (.ref a), .val (.ref t), .val (.int (0 : Int32))] [])) _
    refine XS.aloadN X102.here hx rfl (hb hby d_jdk_42_method_151_code_9) rfl rfl ?_
    show Steps pg.tables ev below (T102.setTop (mkF mi 10 #[.val (.ref a), .val (.ref t), .val (.int (0 : Int32))] [(.ref a)])) _
    refine XS.iloadN X102.here hx rfl (hb hby d_jdk_42_method_151_code_10) rfl ?_
    show Steps pg.tables ev below (T102.setTop (mkF mi 11 #[.val (.ref a), .val (.ref t), .val (.int (0 : Int32))] [(.int (0 : Int32)), (.ref a)])) _
    refine st106 _ ?_
    show Steps pg.tables ev below (T106.setTop (mkF mi 14 #[.val (.ref a), .val (.ref t), .val (.int (0 : Int32))] [])) _
    exact X106.returnOut hx Bd.returns (hb hby d_jdk_42_method_151_code_14) hr
  · show Q_sin Z a t hE n0 _ T106.heap _
    rw [e106]
    exact ⟨rfl, N106, (((Keep.refl hE [a]).trans (Keep.of_wr W102) (allS (Or.inl (List.mem_of_getElem? (i := 0) rfl)) all0)).trans (Keep.of_wr W106) (allS (Or.inl (List.mem_of_getElem? (i := 0) rfl)) all0)), f108, f109, f107⟩
/-! numbers and their digits -/
def dch (n : Nat) : List Int32 := (List.range (Jvm.Free.SBG.digits n)).map fun t => Int32.ofNat (48 + n / 10 ^ (Jvm.Free.SBG.digits n - 1 - t) % 10)
theorem own_digits_bd (n : Nat) : 1 ≤ Jvm.Free.SBG.digits n ∧ Jvm.Free.SBG.digits n ≤ 10 := by
  unfold Jvm.Free.SBG.digits; repeat' split
  all_goals omega
theorem own_nn {p : Int32} (hp : ¬ p < 0) : p.toInt = (p.toNatClampNeg : Int) ∧ p.toNatClampNeg < 2 ^ 31 := ⟨nat_of hp, (back32 hp).2⟩
theorem own_back {p : Int32} (hp : ¬ p < 0) : p = Int32.ofNat p.toNatClampNeg := (back32 hp).1.symm
theorem own_neg {p : Int32} (hp : ¬ p < 0) : (if p < 0 then p else -p) = Jvm.Free.SBG.negI p.toNatClampNeg := by
  rw [if_neg hp]; apply Int32.toInt_inj.mp
  obtain ⟨h1, h2⟩ := own_nn hp
  unfold Jvm.Free.SBG.negI
  rw [← h1, Int32.ofInt_neg, Int32.ofInt_toInt]
theorem own_size {p : Int32} (hp : ¬ p < 0) : Jvm.Free.SBG.strSizeOf p = Int32.ofNat (Jvm.Free.SBG.digits p.toNatClampNeg) := by
  rw [Jvm.Free.SBG.strSizeOf_eq (n := p.toNatClampNeg) (by have := (own_nn hp).2; omega) (own_neg hp)]
  simp [Jvm.Free.SBG.GetChars.sgn, hp]
theorem own_dig_nat (n : Nat) : (Int32.ofNat (Jvm.Free.SBG.digits n)).toNatClampNeg = Jvm.Free.SBG.digits n := Int32.toNatClampNeg_ofNat_of_lt (by have := own_digits_bd n; omega)
theorem own_dig_nn (p : Int32) : ¬ Int32.ofNat (Jvm.Free.SBG.digits p.toNatClampNeg) < 0 := by
  have := own_digits_bd p.toNatClampNeg
  rw [Int32.lt_iff_toInt_lt, Int32.toInt_ofNat_small (by omega)]; simp
theorem own_dig_le (p : Int32) : (Int32.ofNat (Jvm.Free.SBG.digits p.toNatClampNeg)).toNatClampNeg ≤ 10 := by rw [own_dig_nat]; exact (own_digits_bd _).2
def own_g (p : Int32) (b : Addr) (k : ClassId) (sg d1 : Addr) (D1 : Cell) (d2 : Addr) (D2 : Cell) : Jvm.Free.SBG.GetChars.G := ⟨p, p.toNatClampNeg, Jvm.Free.SBG.digits p.toNatClampNeg, b, newA k .byte (Int32.ofNat (Jvm.Free.SBG.digits p.toNatClampNeg)), sg, d1, D1, d2, D2⟩
theorem own_tbl {Z U : State} {nm : String} {sg d : Addr} {D : Cell} (hT : Jvm.Free.SBG.Tbl Z nm sg d D) (al : Z.vm.Alike U.vm) (E : Ext Z.heap U.heap) : Jvm.Free.SBG.Tbl U nm sg d D := by
  obtain ⟨_, _, _, _, cS, -, -, -, -, q1, -, -, q2, -⟩ := id hT
  exact hT.move al (fun c hc => E.2 _ _ hc) (E.2 _ _ q2)
theorem own_tbl_lt {Z : State} {nm : String} {sg d : Addr} {D : Cell} (hT : Jvm.Free.SBG.Tbl Z nm sg d D) : sg < Z.heap.size ∧ d < Z.heap.size := by
  obtain ⟨_, _, _, _, cS, -, -, -, -, q1, -, -, q2, -⟩ := id hT
  exact ⟨(Array.getElem?_eq_some_iff.mp q1).1, (Array.getElem?_eq_some_iff.mp q2).1⟩
theorem own_gcP {Z U : State} {h : Heap} {n0 : Nat} {b : Addr} {k : ClassId} {p : Int32} {sg d1 d2 : Addr} {D1 D2 : Cell} (al : Z.vm.Alike U.vm) (eU : U.heap = h) (O : Old Z n0 h) (g : n0 ≤ b) (Ar : Arr Z h b (newA k .byte (Int32.ofNat (Jvm.Free.SBG.digits p.toNatClampNeg))) .byte) (hp : ¬ p < 0)
    (hT1 : Jvm.Free.SBG.Tbl Z "DigitOnes" sg d1 D1) (hT2 : Jvm.Free.SBG.Tbl Z "DigitTens" sg d2 D2) : Jvm.Free.SBG.GetChars.P (own_g p b k sg d1 D1 d2 D2) #[.int p, .int (Int32.ofNat (Jvm.Free.SBG.digits p.toNatClampNeg)), .ref b] U := by
  subst eU
  have hb := own_digits_bd p.toNatClampNeg
  have hs : (newA k .byte (Int32.ofNat (Jvm.Free.SBG.digits p.toNatClampNeg))).slots.size = Jvm.Free.SBG.digits p.toNatClampNeg := by rw [sz_new, own_dig_nat]
  refine ⟨rfl, Ar.1, State.isArrayOf_alike al Ar.2.1, Ar.2.2, ?_, ?_, ?_, ?_, own_neg hp, own_tbl hT1 al O.2, own_tbl hT2 al O.2, ?_, ?_, ?_⟩
  · show (newA k .byte _).slots.size < _; rw [hs]; omega
  · show _ ≤ (newA k .byte _).slots.size; rw [hs]; exact Nat.le_refl _
  · show Jvm.Free.SBG.digits p.toNatClampNeg + Jvm.Free.SBG.GetChars.sgn p ≤ _; simp [Jvm.Free.SBG.GetChars.sgn, hp, own_g]
  · show p.toNatClampNeg ≤ _; have := (own_nn hp).2; omega
  · exact (O.ne (own_tbl_lt hT1).1 g).symm
  · exact (O.ne (own_tbl_lt hT1).2 g).symm
  · exact (O.ne (own_tbl_lt hT2).2 g).symm
theorem own_dch_at {n t : Nat} (ht : t < Jvm.Free.SBG.digits n) : (dch n).getD t 0 = Int32.ofNat (48 + n / 10 ^ (Jvm.Free.SBG.digits n - 1 - t) % 10) := by
  simp [dch, List.getD_eq_getElem?_getD, ht]
theorem own_dch_length (n : Nat) : (dch n).length = Jvm.Free.SBG.digits n := by simp [dch]
theorem own_dch_len (n : Nat) : (dch n).length ≤ 4000 := by rw [own_dch_length]; have := own_digits_bd n; omega
theorem own_dch_mem {n : Nat} {c : Int32} (hc : c ∈ dch n) : ∃ r, r < 10 ∧ c = Int32.ofNat (48 + r) := by
  simp only [dch, List.mem_map] at hc
  obtain ⟨t, -, rfl⟩ := hc
  exact ⟨_, Nat.mod_lt _ (by omega), rfl⟩
theorem own_dch_bd (n : Nat) : ∀ c ∈ dch n, ¬ c < 0 ∧ ¬ (255 : Int32) < c := fun c hc => by
  obtain ⟨r, hr, rfl⟩ := own_dch_mem hc
  rw [Int32.lt_iff_toInt_lt, Int32.lt_iff_toInt_lt, Int32.toInt_ofNat_small (by omega)]
  exact ⟨by show ¬ _ < (0 : Int); omega, by show ¬ (255 : Int) < _; omega⟩
theorem own_dch_255 (n : Nat) : ∀ c ∈ dch n, ¬ (255 : Int32) < c := fun c hc => by
  obtain ⟨r, hr, rfl⟩ := own_dch_mem hc
  rw [Int32.lt_iff_toInt_lt, Int32.toInt_ofNat_small (by omega)]
  show ¬ (255 : Int) < _; omega
theorem own_lo8 : ∀ r, r < 10 → (Int32.ofNat (48 + r)).toInt8.toInt32 = Int32.ofNat (48 + r) := by decide
theorem own_fit8 : ∀ r, r < 10 → fits .byte (.int (Int32.ofNat (48 + r))) = true := by decide
theorem own_dch_lo8 (n : Nat) : ((dch n).map fun c => Value.int c.toInt8.toInt32) = (dch n).map Value.int := List.map_congr_left fun c hc => by
  obtain ⟨r, hr, rfl⟩ := own_dch_mem hc; rw [own_lo8 r hr]
theorem own_gcQ {Z : State} {h h' : Heap} {b : Addr} {k : ClassId} {p : Int32} {sg d1 d2 : Addr} {D1 D2 : Cell} (Ar : Arr Z h b (newA k .byte (Int32.ofNat (Jvm.Free.SBG.digits p.toNatClampNeg))) .byte)
    (hc : h'[b]? = some (Jvm.Free.SBG.GetChars.outCell (own_g p b k sg d1 D1 d2 D2))) (hz : h'.size = h.size) (ho : ∀ (y : Addr) (cy : Cell), y ≠ b → h[y]? = some cy → h'[y]? = some cy) (hO1 : Jvm.Free.SBG.Ones D1) (hO2 : Jvm.Free.SBG.Tens D2) (hp : ¬ p < 0) :
    Keep h h' [b] ∧ ∃ (kb : ClassId) (N : Int32) (vs : List Value), Arv Z h' b kb .byte N vs (.int (0 : Int32)) ∧ N = Int32.ofNat (dch p.toNatClampNeg).length ∧ vs = (dch p.toNatClampNeg).map fun c => Value.int c.toInt8.toInt32 := by
  have hb := own_digits_bd p.toNatClampNeg
  have hs : (newA k .byte (Int32.ofNat (Jvm.Free.SBG.digits p.toNatClampNeg))).slots.size = Jvm.Free.SBG.digits p.toNatClampNeg := by rw [sz_new, own_dig_nat]
  have hsg : Jvm.Free.SBG.GetChars.sgn p = 0 := by simp [Jvm.Free.SBG.GetChars.sgn, hp]
  have e0 : Jvm.Free.SBG.GetChars.outCell (own_g p b k sg d1 D1 d2 D2) = (Jvm.Free.SBG.digLoop D1 D2 5 (newA k .byte (Int32.ofNat (Jvm.Free.SBG.digits p.toNatClampNeg))) p.toNatClampNeg (Jvm.Free.SBG.digits p.toNatClampNeg)).1 := by
    unfold Jvm.Free.SBG.GetChars.outCell own_g; exact if_neg hp
  obtain ⟨f1, f2, f3, -⟩ := Jvm.Free.SBG.digLoop_facts D1 D2 5 (newA k .byte (Int32.ofNat (Jvm.Free.SBG.digits p.toNatClampNeg))) p.toNatClampNeg (Jvm.Free.SBG.digits p.toNatClampNeg)
  rw [← e0] at f1 f2 f3
  obtain ⟨-, hd, -⟩ := Jvm.Free.SBG.outCell_fwd (own_g p b k sg d1 D1 d2 D2) hO1 hO2 (by show p.toNatClampNeg ≤ _; have := (own_nn hp).2; omega) (n0 := 0) (by show _ = 0 + (_ + Jvm.Free.SBG.GetChars.sgn p); rw [hsg, Nat.zero_add, Nat.add_zero]; rfl) (by show Jvm.Free.SBG.digits _ ≤ (newA k .byte _).slots.size; rw [hs]; exact Nat.le_refl _)
  generalize Jvm.Free.SBG.GetChars.outCell (own_g p b k sg d1 D1 d2 D2) = A' at hc f1 f2 f3 hd
  refine ⟨⟨Nat.le_of_eq hz.symm, fun x c q r => ho x c (fun z => r (by rw [z]; exact List.mem_singleton.mpr rfl)) q, fun x c q => ?_⟩, k, Int32.ofNat (Jvm.Free.SBG.digits p.toNatClampNeg), (dch p.toNatClampNeg).map Value.int, ⟨A', ⟨hc, ?_, ?_⟩, ?_, ?_, own_dig_nn p, ?_, ?_⟩, by rw [own_dch_length], (own_dch_lo8 _).symm⟩
  · by_cases z : x = b
    · subst z; cases q.symm.trans Ar.1; exact ⟨A', hc, f1, f2, f3⟩
    · exact ⟨c, ho x c z q, rfl, rfl, rfl⟩
  · obtain ⟨a1, kk, a2, a3⟩ := Ar.2.1; exact ⟨fun q => by rw [f2]; exact a1 q, kk, by rw [f1]; exact a2, a3⟩
  · rw [f2]; exact Ar.2.2
  · rw [f1]; rfl
  · rw [f3, hs, own_dig_nat]
  · intro i hi
    rw [f3, hs] at hi
    have := hd i hi
    rw [show (0 : Nat) + Jvm.Free.SBG.GetChars.sgn (own_g p b k sg d1 D1 d2 D2).x + i = i from by show 0 + Jvm.Free.SBG.GetChars.sgn p + i = i; rw [hsg]; omega] at this
    rw [this]
    have e : ((dch p.toNatClampNeg).map Value.int).getD i (.int (0 : Int32)) = Value.int ((dch p.toNatClampNeg).getD i 0) := by
      simp [List.getD_eq_getElem?_getD, own_dch_length, hi]
    rw [e, own_dch_at hi]; rfl
  · intro i hi
    rw [f3, hs] at hi
    have e : ((dch p.toNatClampNeg).map Value.int).getD i (.int (0 : Int32)) = Value.int ((dch p.toNatClampNeg).getD i 0) := by
      simp [List.getD_eq_getElem?_getD, own_dch_length, hi]
    rw [e, own_dch_at hi]; exact own_fit8 _ (Nat.mod_lt _ (by omega))
theorem own_tab1 {a0 : Array Value} {Z : State} (hw : ∀ d ∈ tables_1, d.before a0 Z = true) {s : State} {args : Array Value} (hZ : Z.Warmed39 s.vm) : Jvm.Free.SBG.StrSize.tab.before args s = true := Jvm.SetKit.of_leaves _ fun w h => mv hZ (hw w ((by decide +kernel : ∀ w ∈ Jvm.SetKit.leaves Jvm.Free.SBG.StrSize.tab, w ∈ tables_1) w h)) ((by decide +kernel : ∀ w ∈ Jvm.SetKit.leaves Jvm.Free.SBG.StrSize.tab, (w.onTables && w.keepsFace) = true) w h)
theorem own_tab2 {a0 : Array Value} {Z : State} (hw : ∀ d ∈ tables_1, d.before a0 Z = true) {s : State} {args : Array Value} (hZ : Z.Warmed39 s.vm) : Jvm.Free.SBG.GetChars.tab.before args s = true := Jvm.SetKit.of_leaves _ fun w h => mv hZ (hw w ((by decide +kernel : ∀ w ∈ Jvm.SetKit.leaves Jvm.Free.SBG.GetChars.tab, w ∈ tables_1) w h)) ((by decide +kernel : ∀ w ∈ Jvm.SetKit.leaves Jvm.Free.SBG.GetChars.tab, (w.onTables && w.keepsFace) = true) w h)


/-! Strings of Latin-1 chars -/
def LStr (Z : State) (h : Heap) (x t : Addr) (cs : List Int32) : Prop :=
  Exa Z h x "java/lang/String" ∧ Fld Z h x "java/lang/String" "value" "[B" (.ref t) ∧ Fld Z h x "java/lang/String" "coder" "B" (.int (0 : Int32)) ∧
    (∃ kb : ClassId, Arv Z h t kb .byte (Int32.ofNat cs.length) (cs.map fun c => Value.int c.toInt8.toInt32) (.int (0 : Int32))) ∧ (∀ c ∈ cs, ¬ c < 0 ∧ ¬ (255 : Int32) < c) ∧ cs.length ≤ 4000
section OwnStr
variable {Z : State} {h h' : Heap} {x t : Addr} {cs : List Int32} {ws : List Addr}
theorem LStr.ext (F : LStr Z h x t cs) (E : Ext h h') : LStr Z h' x t cs := by
  obtain ⟨a, b, c, ⟨kb, d⟩, f⟩ := F; exact ⟨a.ext E, b.ext E, c.ext E, ⟨kb, d.ext E⟩, f⟩
theorem LStr.keep (F : LStr Z h x t cs) (K : Keep h h' ws) (q : x ∉ ws) (r : t ∉ ws) : LStr Z h' x t cs := by
  obtain ⟨a, b, c, ⟨kb, d⟩, f⟩ := F; exact ⟨a.keep K, b.keep K q, c.keep K q, ⟨kb, d.keep K r⟩, f⟩
theorem LStr.lt (F : LStr Z h x t cs) : x < h.size := F.1.lt
theorem LStr.ltt (F : LStr Z h x t cs) : t < h.size := by obtain ⟨_, _, _, ⟨_, d⟩, _⟩ := F; exact d.lt
theorem own_shr0 (n : Nat) : ((Int32.ofNat n) >>> ((0 : Int32) &&& 31)) = Int32.ofNat n := by
  rw [show ((0 : Int32) &&& 31) = 0 from by decide]; exact Int32.shiftRight_zero
theorem own_len_nn {n : Nat} (h : n ≤ 4000) : ¬ Int32.ofNat n < 0 := by rw [Int32.lt_iff_toInt_lt, Int32.toInt_ofNat_small (by omega)]; simp
theorem own_j0 {j : Int32} {i n : Nat} (hj : j = Int32.ofNat i) (hi : i < n) (hl : n ≤ 4000) : ¬ (j < (0 : Int32)) := by rw [hj]; exact own_len_nn (by omega)
theorem own_jn {j : Int32} {i n : Nat} (hj : j = Int32.ofNat i) (hi : i < n) (hl : n ≤ 4000) : j < Int32.ofNat n := by
  rw [hj, Int32.lt_iff_toInt_lt, Int32.toInt_ofNat_small (by omega), Int32.toInt_ofNat_small (by omega)]; omega
theorem own_jt {j : Int32} {i n : Nat} (hj : j = Int32.ofNat i) (hi : i < n) (hl : n ≤ 4000) : j.toNatClampNeg = i := by rw [hj]; exact Int32.toNatClampNeg_ofNat_of_lt (by omega)
theorem own_vs_at {i : Nat} (hi : i < cs.length) : (cs.map fun c => Value.int c.toInt8.toInt32).getD i (.int (0 : Int32)) = .int ((cs.getD i 0).toInt8.toInt32) := by
  simp [List.getD_eq_getElem?_getD, hi]
theorem own_getD_mem {i : Nat} (hi : i < cs.length) : cs.getD i 0 ∈ cs := by
  rw [show cs.getD i 0 = cs[i] from by simp [List.getD_eq_getElem?_getD, hi]]; exact List.getElem_mem _
theorem own_ch_bv : ∀ n, n < 256 → ((((Int32.ofNat n).toInt8.toInt32 &&& (255 : Int32)).toUInt32.toUInt16.toUInt32.toInt32).toUInt32.toUInt16.toUInt32.toInt32) = Int32.ofNat n := by decide +kernel
theorem own_ch_back {c : Int32} (h : ¬ c < 0 ∧ ¬ (255 : Int32) < c) : nar .char ((c.toInt8.toInt32 &&& (255 : Int32)).toUInt32.toUInt16.toUInt32.toInt32) = c := by
  have e := (back32 h.1).1
  have h2 : c.toNatClampNeg < 256 := by
    have := nat_of h.1; have h3 := h.2; rw [Int32.lt_iff_toInt_lt, this] at h3
    have : ¬ (255 : Int) < (c.toNatClampNeg : Int) := h3
    omega
  have := own_ch_bv c.toNatClampNeg h2
  rw [show Int32.ofNat c.toNatClampNeg = c from e] at this
  exact this
theorem own_nar_char : ∀ n, n < 65536 → nar .char (Int32.ofNat n) = Int32.ofNat n := fun n hn => by
  show (Int32.ofNat n).toUInt32.toUInt16.toUInt32.toInt32 = Int32.ofNat n
  apply Int32.toInt_inj.mp
  rw [Int32.toInt_ofNat_small (by omega)]
  have e : (Int32.ofNat n).toUInt32.toUInt16.toUInt32.toNat = n := by
    simp only [UInt16.toNat_toUInt32, UInt32.toNat_toUInt16]
    show (Int32.ofNat n).toUInt32.toNat % 2 ^ 16 = n
    rw [show (Int32.ofNat n).toUInt32 = UInt32.ofNat n from rfl, UInt32.toNat_ofNat_of_lt' (by show n < 2 ^ 32; omega)]
    omega
  show (((Int32.ofNat n).toUInt32.toUInt16.toUInt32).toInt32).toInt = _
  rw [show ((Int32.ofNat n).toUInt32.toUInt16.toUInt32).toInt32 = Int32.ofNat ((Int32.ofNat n).toUInt32.toUInt16.toUInt32.toNat) from by
    generalize (Int32.ofNat n).toUInt32.toUInt16.toUInt32 = u
    apply Int32.toBitVec_inj.mp; simp [Int32.toBitVec_ofNat], e, Int32.toInt_ofNat_small (by omega)]
theorem own_nar_c {c : Int32} (h : ¬ c < 0 ∧ ¬ (255 : Int32) < c) : nar .char c = c := by
  have e := (back32 h.1).1
  have h2 : c.toNatClampNeg < 65536 := by
    have := nat_of h.1; have h3 := h.2; rw [Int32.lt_iff_toInt_lt, this] at h3
    have : ¬ (255 : Int) < (c.toNatClampNeg : Int) := h3
    omega
  have := own_nar_char c.toNatClampNeg h2
  rw [show Int32.ofNat c.toNatClampNeg = c from e] at this
  exact this
end OwnStr

theorem d_jdk_42_method_152_code_0 : decode jdk_42_method_152_code 0 = .ok (.getstatic 38, 3) := by decide +kernel
theorem d_jdk_42_method_152_code_3 : decode jdk_42_method_152_code 3 = .ok (.ifCond .eq 10, 3) := by decide +kernel
theorem d_jdk_42_method_152_code_6 : decode jdk_42_method_152_code 6 = .ok (.aload_n 0, 1) := by decide +kernel
theorem d_jdk_42_method_152_code_7 : decode jdk_42_method_152_code 7 = .ok (.getfield 15, 3) := by decide +kernel
theorem d_jdk_42_method_152_code_10 : decode jdk_42_method_152_code 10 = .ok (.goto 4, 3) := by decide +kernel
theorem d_jdk_42_method_152_code_14 : decode jdk_42_method_152_code 14 = .ok (.ireturn, 1) := by decide +kernel
theorem ef_coder (mi : MethodId) (x : Addr) : entryFrame mi #[(.ref x)] 1 = mkF mi 0 #[.val (.ref x)] [] := by first | (simp [entryFrame, mkF, argsToLocals, Value.category]; done) | rfl
def Q_coder (Z : State) (x : Addr) (zc : Int32) (hE : Heap) (n0 : Nat) (vv : Option Value) (hh : Heap) (LL : List Loc) : Prop := (vv = some (.int (0 : Int32))) ∧ (Fr n0 LL) ∧ (hh = hE)
set_option maxRecDepth 65536 in
set_option maxHeartbeats 40000000 in
theorem rm_coder (la : Launch) (Z : State) (a0 : Array Value) (hw : ∀ d ∈ tables_1, d.before a0 Z = true) (ws : List Jvm.Cond) (x : Addr) (zc : Int32) (hE : Heap) (n0 : Nat) (O : Old Z n0 hE) (P0_ : Fld Z hE x "java/lang/String" "coder" "B" (.int (0 : Int32))) (D0_ : Sta Z Z.heap "java/lang/String" "COMPACT_STRINGS" "Z" (.int zc)) (hzc : ¬ (zc = (0 : Int32))) :
    MetFree la mn5 (head1 (Jvm.Cond.code mn5 jdk_42_method_152_code 1 (some .byte) :: ws) ({ frames := 0, cells := 0, slots := 0, locals := 0 } : Room)) (fun aa UU => aa = #[(.ref x)] ∧ Z.Warmed39 UU.vm ∧ UU.heap = hE) (fun _ _ _ _ _ => True) (fun _ UU oo UV => ∃ vv LL, oo = .returned vv ∧ Q_coder Z x zc hE n0 vv UV.heap LL ∧ FrameEnd UU oo UV LL ({ frames := 0, cells := 0, slots := 0, locals := 0 } : Room).cells ({ frames := 0, cells := 0, slots := 0, locals := 0 } : Room).slots) := by
  refine MetFree.of_bodySF (plainFor_of_name pn_java_lang_String) hisR ?_
  intro pg ev sb mi gs below me cd s₁ Bd hml0 hPt hKt
  obtain ⟨rfl, hZ, hh⟩ := hPt
  have hx := Bd.exec
  have hby := Bd.bytes
  have hml : cd.maxLocals = 1 := hml0
  have hown : sb.vm.findClass "java/lang/String" = some mi.cls := findClass_of_methodNamed Bd.named
  have hnm := (name_of_methodNamed Bd.named Bd.method).1
  have X0 : Stand pg la ev ({ frames := 0, cells := 0, slots := 0, locals := 0 } : Room) sb mi #[(.ref x)] below me cd s₁ [] 0 0 := Stand.of_body Bd
  have eE : s₁.heap = hE := by rw [← hh, Bd.state]; rfl
  have N0 := Fr.nil n0
  have pre0 : ∀ tt, Steps pg.tables ev below (s₁.setTop (mkF mi 0 #[.val (.ref x)] [])) tt → Steps pg.tables ev below (s₁.setTop (entryFrame mi #[(.ref x)] 1)) tt := fun tt kk => castTop (ef_coder mi x) kk
  obtain ⟨T101, X101, e101, st101⟩ := getS2 X0 hx hZ hown (host := "") (Or.inl (wd137 hw)) Via.refl eE (D0_.ext O.2) (g := (mkF mi 0 #[.val (.ref x)] [])) rfl (hb hby d_jdk_42_method_152_code_0)
  obtain ⟨T102, X102, e102, st102⟩ := getF X101 hx hZ hown (host := "") (Or.inl (wd65 hw)) Via.refl e101 P0_ (g := (mkF mi 7 #[.val (.ref x)] [(.ref x)])) rfl rfl (hb hby d_jdk_42_method_152_code_7)
  obtain ⟨fs, hr, hrun, hended, hW, hsame⟩ := X102.leave (v := some (.int (0 : Int32))) (fun hq => by rw [Bd.returns] at hq; cases hq)
  refine ⟨_, _, pre0 _ ?_, hrun, hended, _, _, rfl, ?_, ⟨_, rfl⟩, hW, hsame.mono (by decide) (by decide)⟩
  · show Steps pg.tables ev below (s₁.setTop (mkF mi 0 #[.val (.ref x)] [])) _
    refine st101 _ ?_
    show Steps pg.tables ev below (T101.setTop (mkF mi 3 #[.val (.ref x)] [(.int zc)])) _
    refine XS.ifNo X101.here hx rfl (hb hby d_jdk_42_method_152_code_3) rfl ((if0 _ _).trans (feq hzc).1) ?_
    show Steps pg.tables ev below (T101.setTop (mkF mi 6 #[.val (.ref x)] [])) _
    refine XS.aloadN X101.here hx rfl (hb hby d_jdk_42_method_152_code_6) rfl rfl ?_
    show Steps pg.tables ev below (T101.setTop (mkF mi 7 #[.val (.ref x)] [(.ref x)])) _
    refine st102 _ ?_
    show Steps pg.tables ev below (T102.setTop (mkF mi 10 #[.val (.ref x)] [(.int (0 : Int32))])) _
    refine XS.goto X102.here hx rfl (pc0 := 10) (pc' := 14) rfl (hb hby d_jdk_42_method_152_code_10) (by decide) (by decide) ?_
    show Steps pg.tables ev below (T102.setTop (mkF mi 14 #[.val (.ref x)] [(.int (0 : Int32))])) _
    exact retN X102 hx (t := .byte) Bd.returns (by simp) (hb hby d_jdk_42_method_152_code_14) hr
  · show Q_coder Z x zc hE n0 _ T102.heap _
    rw [e102]
    exact ⟨rfl, N0, rfl⟩
theorem d_jdk_42_method_54_code_0 : decode jdk_42_method_54_code 0 = .ok (.aload_n 0, 1) := by decide +kernel
theorem d_jdk_42_method_54_code_1 : decode jdk_42_method_54_code 1 = .ok (.getfield 9, 3) := by decide +kernel
theorem d_jdk_42_method_54_code_4 : decode jdk_42_method_54_code 4 = .ok (.arraylength, 1) := by decide +kernel
theorem d_jdk_42_method_54_code_5 : decode jdk_42_method_54_code 5 = .ok (.aload_n 0, 1) := by decide +kernel
theorem d_jdk_42_method_54_code_6 : decode jdk_42_method_54_code 6 = .ok (.invokevirtual 335, 3) := by decide +kernel
theorem d_jdk_42_method_54_code_9 : decode jdk_42_method_54_code 9 = .ok (.ishr, 1) := by decide +kernel
theorem d_jdk_42_method_54_code_10 : decode jdk_42_method_54_code 10 = .ok (.ireturn, 1) := by decide +kernel
theorem pd_2 : parseMethodDescriptor "()B" = some ⟨[], some .byte⟩ := by decide +kernel
theorem ef_slen (mi : MethodId) (x : Addr) : entryFrame mi #[(.ref x)] 1 = mkF mi 0 #[.val (.ref x)] [] := by first | (simp [entryFrame, mkF, argsToLocals, Value.category]; done) | rfl
def Q_slen (Z : State) (x : Addr) (t : Addr) (cs : List Int32) (zc : Int32) (hE : Heap) (n0 : Nat) (vv : Option Value) (hh : Heap) (LL : List Loc) : Prop := (vv = some (.int (Int32.ofNat cs.length))) ∧ (Fr n0 LL) ∧ (hh = hE)
set_option maxRecDepth 65536 in
set_option maxHeartbeats 40000000 in
theorem rm_slen (la : Launch) (Z : State) (a0 : Array Value) (hw : ∀ d ∈ tables_1, d.before a0 Z = true) (ws : List Jvm.Cond) (x : Addr) (t : Addr) (cs : List Int32) (zc : Int32) (hE : Heap) (n0 : Nat) (O : Old Z n0 hE) (P0_ : LStr Z hE x t cs) (D0_ : Sta Z Z.heap "java/lang/String" "COMPACT_STRINGS" "Z" (.int zc)) (hzc : ¬ (zc = (0 : Int32))) :
    MetFree la mn6 (head1 (Jvm.Cond.code mn6 jdk_42_method_54_code 1 (some .int) :: ws) ({ frames := 1, cells := 0, slots := 0, locals := 13 } : Room)) (fun aa UU => aa = #[(.ref x)] ∧ Z.Warmed39 UU.vm ∧ UU.heap = hE) (fun _ _ _ _ _ => True) (fun _ UU oo UV => ∃ vv LL, oo = .returned vv ∧ Q_slen Z x t cs zc hE n0 vv UV.heap LL ∧ FrameEnd UU oo UV LL ({ frames := 1, cells := 0, slots := 0, locals := 13 } : Room).cells ({ frames := 1, cells := 0, slots := 0, locals := 13 } : Room).slots) := by
  refine MetFree.of_bodySF (plainFor_of_name pn_java_lang_String) hisR ?_
  intro pg ev sb mi gs below me cd s₁ Bd hml0 hPt hKt
  obtain ⟨rfl, hZ, hh⟩ := hPt
  have hx := Bd.exec
  have hby := Bd.bytes
  have hml : cd.maxLocals = 1 := hml0
  have hown : sb.vm.findClass "java/lang/String" = some mi.cls := findClass_of_methodNamed Bd.named
  have hnm := (name_of_methodNamed Bd.named Bd.method).1
  have X0 : Stand pg la ev ({ frames := 1, cells := 0, slots := 0, locals := 13 } : Room) sb mi #[(.ref x)] below me cd s₁ [] 0 0 := Stand.of_body Bd
  have eE : s₁.heap = hE := by rw [← hh, Bd.state]; rfl
  have N0 := Fr.nil n0
  have pre0 : ∀ tt, Steps pg.tables ev below (s₁.setTop (mkF mi 0 #[.val (.ref x)] [])) tt → Steps pg.tables ev below (s₁.setTop (entryFrame mi #[(.ref x)] 1)) tt := fun tt kk => castTop (ef_slen mi x) kk
  obtain ⟨sE101, sV101, sC101, ⟨kb101, sK101⟩, sb101, sl101⟩ := id P0_
  obtain ⟨T102, X102, e102, st102⟩ := getF X0 hx hZ hown (host := "") (Or.inl (wd63 hw)) Via.refl eE sV101 (g := (mkF mi 1 #[.val (.ref x)] [(.ref x)])) rfl rfl (hb hby d_jdk_42_method_54_code_1)
  obtain ⟨cl103, Ar103, -, Sz103, Nn103, -, -⟩ := id sK101
  obtain ⟨cq104, kq104, q104a, q104b, q104c⟩ := isOf hZ e102 sE101
  obtain ⟨v104, _, ⟨T104, L104, k104, n104⟩, -, X104, ⟨Lc104, hQ104, l104, y104, z104⟩, st104⟩ := X102.virtualBack hx (y := mn5) (z := mn5) hown (mvT hZ (wd132 hw)) (mvT hZ (wd133 hw)) (notFace_of_selects (args := #[]) (mvT hZ (wd135 hw))) (mvT hZ (wd135 hw)) (mvT hZ (wd134 hw)) (by decide) (backOf (W := 1) (rm_coder la Z a0 hw [] x zc hE n0 O sC101 D0_ (hzc : ¬ (zc = (0 : Int32)))) hZ (wd136 hw) (wd50 hw) (by decide) (by decide)) q104a q104c (g := (mkF mi 6 #[.val (.ref x)] [(.ref x), (.int (Int32.ofNat cs.length))])) rfl (by rw [hml]; rfl) (Steps.refl _) (argsL := []) (rest := [(.int (Int32.ofNat cs.length))]) (lenOf pd_2 rfl) rfl (by show 2 * 0 + _ ≤ _; exact Nat.le_of_eq rfl) (hb hby d_jdk_42_method_54_code_6) (fun _ _ => ⟨rfl, e102, (by decide : 0 + 0 ≤ _), (by decide : 0 + 0 ≤ _)⟩)
  dsimp only [Pt.U, Pt.locs, Pt.cells, Pt.slots] at X104 l104 y104 z104 st104 hQ104
  subst l104 y104 z104
  obtain ⟨rfl, Nq104, ek104⟩ := hQ104
  have N104 := Fr.app N0 Nq104
  obtain ⟨fs, hr, hrun, hended, hW, hsame⟩ := X104.leave (v := some (.int ((Int32.ofNat cs.length) >>> ((0 : Int32) &&& 31)))) (fun hq => by rw [Bd.returns] at hq; cases hq)
  refine ⟨_, _, pre0 _ ?_, hrun, hended, _, _, rfl, ?_, ⟨_, rfl⟩, hW, hsame.mono (by decide) (by decide)⟩
  · show Steps pg.tables ev below (s₁.setTop (mkF mi 0 #[.val (.ref x)] [])) _
    refine XS.aloadN X0.here hx rfl (hb hby d_jdk_42_method_54_code_0) rfl rfl ?_
    show Steps pg.tables ev below (s₁.setTop (mkF mi 1 #[.val (.ref x)] [(.ref x)])) _
    refine st102 _ ?_
    show Steps pg.tables ev below (T102.setTop (mkF mi 4 #[.val (.ref x)] [(.ref t)])) _
    refine X102.arraylength hx (cell := cl103) (by rw [e102]; exact Ar103.1) (State.isArrayOf_alike hZ.alike Ar103.2.1) (g := (mkF mi 4 #[.val (.ref x)] [(.ref t)])) rfl (rest := []) rfl (hb hby d_jdk_42_method_54_code_4) _ ?_
    rw [len_of Sz103 Nn103]
    show Steps pg.tables ev below (T102.setTop (mkF mi 5 #[.val (.ref x)] [(.int (Int32.ofNat cs.length))])) _
    refine XS.aloadN X102.here hx rfl (hb hby d_jdk_42_method_54_code_5) rfl rfl ?_
    show Steps pg.tables ev below (T102.setTop (mkF mi 6 #[.val (.ref x)] [(.ref x), (.int (Int32.ofNat cs.length))])) _
    refine st104.trans ?_
    show Steps pg.tables ev below (T104.setTop (mkF mi 9 #[.val (.ref x)] [(.int (0 : Int32)), (.int (Int32.ofNat cs.length))])) _
    refine XS.ishr X104.here hx rfl (hb hby d_jdk_42_method_54_code_9) rfl ?_
    show Steps pg.tables ev below (T104.setTop (mkF mi 10 #[.val (.ref x)] [(.int ((Int32.ofNat cs.length) >>> ((0 : Int32) &&& 31)))])) _
    exact retI X104 hx Bd.returns (hb hby d_jdk_42_method_54_code_10) hr
  · show Q_slen Z x t cs zc hE n0 _ T104.heap _
    rw [ek104]
    exact ⟨(congrArg (fun z => some (Value.int z)) (own_shr0 cs.length)), N104, rfl⟩
theorem d_jdk_42_method_154_code_0 : decode jdk_42_method_154_code 0 = .ok (.getstatic 38, 3) := by decide +kernel
theorem d_jdk_42_method_154_code_3 : decode jdk_42_method_154_code 3 = .ok (.ifCond .eq 14, 3) := by decide +kernel
theorem d_jdk_42_method_154_code_6 : decode jdk_42_method_154_code 6 = .ok (.aload_n 0, 1) := by decide +kernel
theorem d_jdk_42_method_154_code_7 : decode jdk_42_method_154_code 7 = .ok (.getfield 15, 3) := by decide +kernel
theorem d_jdk_42_method_154_code_10 : decode jdk_42_method_154_code 10 = .ok (.ifCond .ne 7, 3) := by decide +kernel
theorem d_jdk_42_method_154_code_13 : decode jdk_42_method_154_code 13 = .ok (.iconst 1, 1) := by decide +kernel
theorem d_jdk_42_method_154_code_14 : decode jdk_42_method_154_code 14 = .ok (.goto 4, 3) := by decide +kernel
theorem d_jdk_42_method_154_code_18 : decode jdk_42_method_154_code 18 = .ok (.ireturn, 1) := by decide +kernel
theorem ef_isl1 (mi : MethodId) (x : Addr) : entryFrame mi #[(.ref x)] 1 = mkF mi 0 #[.val (.ref x)] [] := by first | (simp [entryFrame, mkF, argsToLocals, Value.category]; done) | rfl
def Q_isl1 (Z : State) (x : Addr) (zc : Int32) (hE : Heap) (n0 : Nat) (vv : Option Value) (hh : Heap) (LL : List Loc) : Prop := (vv = some (.int (1 : Int32))) ∧ (Fr n0 LL) ∧ (hh = hE)
set_option maxRecDepth 65536 in
set_option maxHeartbeats 40000000 in
theorem rm_isl1 (la : Launch) (Z : State) (a0 : Array Value) (hw : ∀ d ∈ tables_1, d.before a0 Z = true) (ws : List Jvm.Cond) (x : Addr) (zc : Int32) (hE : Heap) (n0 : Nat) (O : Old Z n0 hE) (P0_ : Fld Z hE x "java/lang/String" "coder" "B" (.int (0 : Int32))) (D0_ : Sta Z Z.heap "java/lang/String" "COMPACT_STRINGS" "Z" (.int zc)) (hzc : ¬ (zc = (0 : Int32))) :
    MetFree la mn7 (head1 (Jvm.Cond.code mn7 jdk_42_method_154_code 1 (some .boolean) :: ws) ({ frames := 0, cells := 0, slots := 0, locals := 0 } : Room)) (fun aa UU => aa = #[(.ref x)] ∧ Z.Warmed39 UU.vm ∧ UU.heap = hE) (fun _ _ _ _ _ => True) (fun _ UU oo UV => ∃ vv LL, oo = .returned vv ∧ Q_isl1 Z x zc hE n0 vv UV.heap LL ∧ FrameEnd UU oo UV LL ({ frames := 0, cells := 0, slots := 0, locals := 0 } : Room).cells ({ frames := 0, cells := 0, slots := 0, locals := 0 } : Room).slots) := by
  refine MetFree.of_bodySF (plainFor_of_name pn_java_lang_String) hisR ?_
  intro pg ev sb mi gs below me cd s₁ Bd hml0 hPt hKt
  obtain ⟨rfl, hZ, hh⟩ := hPt
  have hx := Bd.exec
  have hby := Bd.bytes
  have hml : cd.maxLocals = 1 := hml0
  have hown : sb.vm.findClass "java/lang/String" = some mi.cls := findClass_of_methodNamed Bd.named
  have hnm := (name_of_methodNamed Bd.named Bd.method).1
  have X0 : Stand pg la ev ({ frames := 0, cells := 0, slots := 0, locals := 0 } : Room) sb mi #[(.ref x)] below me cd s₁ [] 0 0 := Stand.of_body Bd
  have eE : s₁.heap = hE := by rw [← hh, Bd.state]; rfl
  have N0 := Fr.nil n0
  have pre0 : ∀ tt, Steps pg.tables ev below (s₁.setTop (mkF mi 0 #[.val (.ref x)] [])) tt → Steps pg.tables ev below (s₁.setTop (entryFrame mi #[(.ref x)] 1)) tt := fun tt kk => castTop (ef_isl1 mi x) kk
  obtain ⟨T101, X101, e101, st101⟩ := getS2 X0 hx hZ hown (host := "") (Or.inl (wd137 hw)) Via.refl eE (D0_.ext O.2) (g := (mkF mi 0 #[.val (.ref x)] [])) rfl (hb hby d_jdk_42_method_154_code_0)
  obtain ⟨T102, X102, e102, st102⟩ := getF X101 hx hZ hown (host := "") (Or.inl (wd65 hw)) Via.refl e101 P0_ (g := (mkF mi 7 #[.val (.ref x)] [(.ref x)])) rfl rfl (hb hby d_jdk_42_method_154_code_7)
  obtain ⟨fs, hr, hrun, hended, hW, hsame⟩ := X102.leave (v := some (.int (1 : Int32))) (fun hq => by rw [Bd.returns] at hq; cases hq)
  refine ⟨_, _, pre0 _ ?_, hrun, hended, _, _, rfl, ?_, ⟨_, rfl⟩, hW, hsame.mono (by decide) (by decide)⟩
  · show Steps pg.tables ev below (s₁.setTop (mkF mi 0 #[.val (.ref x)] [])) _
    refine st101 _ ?_
    show Steps pg.tables ev below (T101.setTop (mkF mi 3 #[.val (.ref x)] [(.int zc)])) _
    refine XS.ifNo X101.here hx rfl (hb hby d_jdk_42_method_154_code_3) rfl ((if0 _ _).trans (feq hzc).1) ?_
    show Steps pg.tables ev below (T101.setTop (mkF mi 6 #[.val (.ref x)] [])) _
    refine XS.aloadN X101.here hx rfl (hb hby d_jdk_42_method_154_code_6) rfl rfl ?_
    show Steps pg.tables ev below (T101.setTop (mkF mi 7 #[.val (.ref x)] [(.ref x)])) _
    refine st102 _ ?_
    show Steps pg.tables ev below (T102.setTop (mkF mi 10 #[.val (.ref x)] [(.int (0 : Int32))])) _
    refine XS.ifNo X102.here hx rfl (hb hby d_jdk_42_method_154_code_10) rfl ((if0 _ _).trans (teq (rfl : (0 : Int32) = (0 : Int32))).2) ?_
    show Steps pg.tables ev below (T102.setTop (mkF mi 13 #[.val (.ref x)] [])) _
    refine XS.iconst X102.here hx rfl (hb hby d_jdk_42_method_154_code_13) ?_
    show Steps pg.tables ev below (T102.setTop (mkF mi 14 #[.val (.ref x)] [(.int (1 : Int32))])) _
    refine XS.goto X102.here hx rfl (pc0 := 14) (pc' := 18) rfl (hb hby d_jdk_42_method_154_code_14) (by decide) (by decide) ?_
    show Steps pg.tables ev below (T102.setTop (mkF mi 18 #[.val (.ref x)] [(.int (1 : Int32))])) _
    exact retN X102 hx (t := .boolean) Bd.returns (by simp) (hb hby d_jdk_42_method_154_code_18) hr
  · show Q_isl1 Z x zc hE n0 _ T102.heap _
    rw [e102]
    exact ⟨rfl, N0, rfl⟩
theorem d_jdk_41_method_11_code_0 : decode jdk_41_method_11_code 0 = .ok (.iload_n 0, 1) := by decide +kernel
theorem d_jdk_41_method_11_code_1 : decode jdk_41_method_11_code 1 = .ok (.ifCond .lt 8, 3) := by decide +kernel
theorem d_jdk_41_method_11_code_4 : decode jdk_41_method_11_code 4 = .ok (.iload_n 0, 1) := by decide +kernel
theorem d_jdk_41_method_11_code_5 : decode jdk_41_method_11_code 5 = .ok (.iload_n 1, 1) := by decide +kernel
theorem d_jdk_41_method_11_code_6 : decode jdk_41_method_11_code 6 = .ok (.if_icmp .lt 10, 3) := by decide +kernel
theorem d_jdk_41_method_11_code_16 : decode jdk_41_method_11_code 16 = .ok (.iload_n 0, 1) := by decide +kernel
theorem d_jdk_41_method_11_code_17 : decode jdk_41_method_11_code 17 = .ok (.ireturn, 1) := by decide +kernel
theorem pn_jdk_internal_util_Preconditions : plainName "jdk/internal/util/Preconditions" = true := by first | (simp [plainName, overriddenIn]; done) | decide +kernel
theorem ef_pchk (mi : MethodId) (i : Int32) (n : Int32) (fm : Value) (hx_fm : fm.isRef = true) : entryFrame mi #[(.int i), (.int n), fm] 3 = mkF mi 0 #[.val (.int i), .val (.int n), .val fm] [] := by rcases ref_cases hx_fm with rfl | ⟨_, rfl⟩ <;> (first | (simp [entryFrame, mkF, argsToLocals, Value.category]; done) | rfl)
def Q_pchk (Z : State) (i : Int32) (n : Int32) (fm : Value) (hE : Heap) (n0 : Nat) (vv : Option Value) (hh : Heap) (LL : List Loc) : Prop := (vv = some (.int i)) ∧ (Fr n0 LL) ∧ (hh = hE)
set_option maxRecDepth 65536 in
set_option maxHeartbeats 40000000 in
theorem rm_pchk (la : Launch) (Z : State) (a0 : Array Value) (hw : ∀ d ∈ tables_1, d.before a0 Z = true) (ws : List Jvm.Cond) (i : Int32) (n : Int32) (fm : Value) (hE : Heap) (n0 : Nat) (O : Old Z n0 hE) (hi0 : ¬ (i < (0 : Int32))) (hin : i < n) (hfm : fm.isRef = true) :
    MetFree la mn8 (head1 (Jvm.Cond.code mn8 jdk_41_method_11_code 3 (some .int) :: ws) ({ frames := 0, cells := 0, slots := 0, locals := 0 } : Room)) (fun aa UU => aa = #[(.int i), (.int n), fm] ∧ Z.Warmed39 UU.vm ∧ UU.heap = hE) (fun _ _ _ _ _ => True) (fun _ UU oo UV => ∃ vv LL, oo = .returned vv ∧ Q_pchk Z i n fm hE n0 vv UV.heap LL ∧ FrameEnd UU oo UV LL ({ frames := 0, cells := 0, slots := 0, locals := 0 } : Room).cells ({ frames := 0, cells := 0, slots := 0, locals := 0 } : Room).slots) := by
  refine MetFree.of_bodySF (plainFor_of_name pn_jdk_internal_util_Preconditions) hisR ?_
  intro pg ev sb mi gs below me cd s₁ Bd hml0 hPt hKt
  obtain ⟨rfl, hZ, hh⟩ := hPt
  have hx := Bd.exec
  have hby := Bd.bytes
  have hml : cd.maxLocals = 3 := hml0
  have hown : sb.vm.findClass "jdk/internal/util/Preconditions" = some mi.cls := findClass_of_methodNamed Bd.named
  have hnm := (name_of_methodNamed Bd.named Bd.method).1
  have X0 : Stand pg la ev ({ frames := 0, cells := 0, slots := 0, locals := 0 } : Room) sb mi #[(.int i), (.int n), fm] below me cd s₁ [] 0 0 := Stand.of_body Bd
  have eE : s₁.heap = hE := by rw [← hh, Bd.state]; rfl
  have N0 := Fr.nil n0
  have pre0 : ∀ tt, Steps pg.tables ev below (s₁.setTop (mkF mi 0 #[.val (.int i), .val (.int n), .val fm] [])) tt → Steps pg.tables ev below (s₁.setTop (entryFrame mi #[(.int i), (.int n), fm] 3)) tt := fun tt kk => castTop (ef_pchk mi i n fm hfm) kk
  obtain ⟨fs, hr, hrun, hended, hW, hsame⟩ := X0.leave (v := some (.int i)) (fun hq => by rw [Bd.returns] at hq; cases hq)
  refine ⟨_, _, pre0 _ ?_, hrun, hended, _, _, rfl, ?_, ⟨_, rfl⟩, hW, hsame.mono (by decide) (by decide)⟩
  · show Steps pg.tables ev below (s₁.setTop (mkF mi 0 #[.val (.int i), .val (.int n), .val fm] [])) _
    refine XS.iloadN X0.here hx rfl (hb hby d_jdk_41_method_11_code_0) rfl ?_
    show Steps pg.tables ev below (s₁.setTop (mkF mi 1 #[.val (.int i), .val (.int n), .val fm] [(.int i)])) _
    refine XS.ifNo X0.here hx rfl (hb hby d_jdk_41_method_11_code_1) rfl ((if0 _ _).trans (flt hi0).1) ?_
    show Steps pg.tables ev below (s₁.setTop (mkF mi 4 #[.val (.int i), .val (.int n), .val fm] [])) _
    refine XS.iloadN X0.here hx rfl (hb hby d_jdk_41_method_11_code_4) rfl ?_
    show Steps pg.tables ev below (s₁.setTop (mkF mi 5 #[.val (.int i), .val (.int n), .val fm] [(.int i)])) _
    refine XS.iloadN X0.here hx rfl (hb hby d_jdk_41_method_11_code_5) rfl ?_
    show Steps pg.tables ev below (s₁.setTop (mkF mi 6 #[.val (.int i), .val (.int n), .val fm] [(.int n), (.int i)])) _
    refine XS.icmpYes X0.here hx rfl (pc0 := 6) (pc' := 16) rfl (hb hby d_jdk_41_method_11_code_6) rfl (tlt hin).1 (by decide) (by decide) ?_
    show Steps pg.tables ev below (s₁.setTop (mkF mi 16 #[.val (.int i), .val (.int n), .val fm] [])) _
    refine XS.iloadN X0.here hx rfl (hb hby d_jdk_41_method_11_code_16) rfl ?_
    show Steps pg.tables ev below (s₁.setTop (mkF mi 17 #[.val (.int i), .val (.int n), .val fm] [(.int i)])) _
    exact retI X0 hx Bd.returns (hb hby d_jdk_41_method_11_code_17) hr
  · show Q_pchk Z i n fm hE n0 _ s₁.heap _
    rw [eE]
    exact ⟨rfl, N0, rfl⟩
theorem d_jdk_42_method_155_code_0 : decode jdk_42_method_155_code 0 = .ok (.iload_n 0, 1) := by decide +kernel
theorem d_jdk_42_method_155_code_1 : decode jdk_42_method_155_code 1 = .ok (.iload_n 1, 1) := by decide +kernel
theorem d_jdk_42_method_155_code_2 : decode jdk_42_method_155_code 2 = .ok (.getstatic 1053, 3) := by decide +kernel
theorem d_jdk_42_method_155_code_5 : decode jdk_42_method_155_code 5 = .ok (.invokestatic 1059, 3) := by decide +kernel
theorem d_jdk_42_method_155_code_8 : decode jdk_42_method_155_code 8 = .ok (.pop, 1) := by decide +kernel
theorem d_jdk_42_method_155_code_9 : decode jdk_42_method_155_code 9 = .ok (.return_, 1) := by decide +kernel
theorem pd_3 : parseMethodDescriptor "(IILjava/util/function/BiFunction;)I" = some ⟨[.int, .int, (.object "java/util/function/BiFunction")], some .int⟩ := by decide +kernel
theorem ef_schk (mi : MethodId) (i : Int32) (n : Int32) : entryFrame mi #[(.int i), (.int n)] 2 = mkF mi 0 #[.val (.int i), .val (.int n)] [] := by first | (simp [entryFrame, mkF, argsToLocals, Value.category]; done) | rfl
def Q_schk (Z : State) (i : Int32) (n : Int32) (fm : Value) (hE : Heap) (n0 : Nat) (vv : Option Value) (hh : Heap) (LL : List Loc) : Prop := (vv = none) ∧ (Fr n0 LL) ∧ (hh = hE)
set_option maxRecDepth 65536 in
set_option maxHeartbeats 40000000 in
theorem rm_schk (la : Launch) (Z : State) (a0 : Array Value) (hw : ∀ d ∈ tables_1, d.before a0 Z = true) (ws : List Jvm.Cond) (i : Int32) (n : Int32) (fm : Value) (hE : Heap) (n0 : Nat) (O : Old Z n0 hE) (D0_ : Sta Z Z.heap "jdk/internal/util/Preconditions" "SIOOBE_FORMATTER" "Ljava/util/function/BiFunction;" fm) (hi0 : ¬ (i < (0 : Int32))) (hin : i < n) (hfm : fm.isRef = true) :
    MetFree la mn9 (head1 (Jvm.Cond.code mn9 jdk_42_method_155_code 2 none :: ws) ({ frames := 1, cells := 0, slots := 0, locals := 14 } : Room)) (fun aa UU => aa = #[(.int i), (.int n)] ∧ Z.Warmed39 UU.vm ∧ UU.heap = hE) (fun _ _ _ _ _ => True) (fun _ UU oo UV => ∃ vv LL, oo = .returned vv ∧ Q_schk Z i n fm hE n0 vv UV.heap LL ∧ FrameEnd UU oo UV LL ({ frames := 1, cells := 0, slots := 0, locals := 14 } : Room).cells ({ frames := 1, cells := 0, slots := 0, locals := 14 } : Room).slots) := by
  refine MetFree.of_bodySF (plainFor_of_name pn_java_lang_String) hisR ?_
  intro pg ev sb mi gs below me cd s₁ Bd hml0 hPt hKt
  obtain ⟨rfl, hZ, hh⟩ := hPt
  have hx := Bd.exec
  have hby := Bd.bytes
  have hml : cd.maxLocals = 2 := hml0
  have hown : sb.vm.findClass "java/lang/String" = some mi.cls := findClass_of_methodNamed Bd.named
  have hnm := (name_of_methodNamed Bd.named Bd.method).1
  have X0 : Stand pg la ev ({ frames := 1, cells := 0, slots := 0, locals := 14 } : Room) sb mi #[(.int i), (.int n)] below me cd s₁ [] 0 0 := Stand.of_body Bd
  have eE : s₁.heap = hE := by rw [← hh, Bd.state]; rfl
  have N0 := Fr.nil n0
  have pre0 : ∀ tt, Steps pg.tables ev below (s₁.setTop (mkF mi 0 #[.val (.int i), .val (.int n)] [])) tt → Steps pg.tables ev below (s₁.setTop (entryFrame mi #[(.int i), (.int n)] 2)) tt := fun tt kk => castTop (ef_schk mi i n) kk
  obtain ⟨T101, X101, e101, st101⟩ := getS2 X0 hx hZ hown (host := "") (Or.inl (wd155 hw)) Via.refl eE (D0_.ext O.2) (g := (mkF mi 2 #[.val (.int i), .val (.int n)] [(.int n), (.int i)])) rfl (hb hby d_jdk_42_method_155_code_2)
  obtain ⟨v102, _, ⟨T102, L102, k102, n102⟩, -, X102, ⟨Lc102, hQ102, l102, y102, z102⟩, st102⟩ := Jvm.LawKit.callS X101 hx (y := mn8) hown (mvT hZ (wd157 hw)) (mvT hZ (wd158 hw)) (mvT hZ (wd156 hw)) (mvT hZ (wd159 hw)) (by decide) (backOf (W := 0) (rm_pchk la Z a0 hw [] i n fm hE n0 O (hi0 : ¬ (i < (0 : Int32))) (hin : i < n) (hfm : fm.isRef = true)) hZ (wd159 hw) (wd156 hw) (by decide) (by decide)) (g := (mkF mi 5 #[.val (.int i), .val (.int n)] [fm, (.int n), (.int i)])) rfl (by rw [hml]; rfl) (argsL := [(.int i), (.int n), fm]) (rest := []) (lenOf pd_3 rfl) rfl (by show 2 * 0 + _ ≤ _; exact Nat.le_of_eq rfl) (hb hby d_jdk_42_method_155_code_5) (fun _ _ => ⟨rfl, e101, (by decide : 0 + 0 ≤ _), (by decide : 0 + 0 ≤ _)⟩)
  dsimp only [Pt.U, Pt.locs, Pt.cells, Pt.slots] at X102 l102 y102 z102 st102 hQ102
  subst l102 y102 z102
  obtain ⟨rfl, Nq102, ek102⟩ := hQ102
  have N102 := Fr.app N0 Nq102
  obtain ⟨fs, hr, hrun, hended, hW, hsame⟩ := X102.leave (v := none) (fun _ => rfl)
  refine ⟨_, _, pre0 _ ?_, hrun, hended, _, _, rfl, ?_, ⟨_, rfl⟩, hW, hsame.mono (by decide) (by decide)⟩
  · show Steps pg.tables ev below (s₁.setTop (mkF mi 0 #[.val (.int i), .val (.int n)] [])) _
    refine XS.iloadN X0.here hx rfl (hb hby d_jdk_42_method_155_code_0) rfl ?_
    show Steps pg.tables ev below (s₁.setTop (mkF mi 1 #[.val (.int i), .val (.int n)] [(.int i)])) _
    refine XS.iloadN X0.here hx rfl (hb hby d_jdk_42_method_155_code_1) rfl ?_
    show Steps pg.tables ev below (s₁.setTop (mkF mi 2 #[.val (.int i), .val (.int n)] [(.int n), (.int i)])) _
    refine st101 _ ?_
    show Steps pg.tables ev below (T101.setTop (mkF mi 5 #[.val (.int i), .val (.int n)] [fm, (.int n), (.int i)])) _
    refine st102 _ ?_
    show Steps pg.tables ev below (T102.setTop (mkF mi 8 #[.val (.int i), .val (.int n)] [(.int i)])) _
    refine XS.pop X102.here hx rfl (hb hby d_jdk_42_method_155_code_8) rfl rfl ?_
    show Steps pg.tables ev below (T102.setTop (mkF mi 9 #[.val (.int i), .val (.int n)] [])) _
    exact X102.returnOut hx Bd.returns (hb hby d_jdk_42_method_155_code_9) hr
  · show Q_schk Z i n fm hE n0 _ T102.heap _
    rw [ek102]
    exact ⟨rfl, N102, rfl⟩
theorem d_jdk_43_method_2_code_0 : decode jdk_43_method_2_code 0 = .ok (.iload_n 1, 1) := by decide +kernel
theorem d_jdk_43_method_2_code_1 : decode jdk_43_method_2_code 1 = .ok (.aload_n 0, 1) := by decide +kernel
theorem d_jdk_43_method_2_code_2 : decode jdk_43_method_2_code 2 = .ok (.arraylength, 1) := by decide +kernel
theorem d_jdk_43_method_2_code_3 : decode jdk_43_method_2_code 3 = .ok (.invokestatic 9, 3) := by decide +kernel
theorem d_jdk_43_method_2_code_6 : decode jdk_43_method_2_code 6 = .ok (.aload_n 0, 1) := by decide +kernel
theorem d_jdk_43_method_2_code_7 : decode jdk_43_method_2_code 7 = .ok (.iload_n 1, 1) := by decide +kernel
theorem d_jdk_43_method_2_code_8 : decode jdk_43_method_2_code 8 = .ok (.baload, 1) := by decide +kernel
theorem d_jdk_43_method_2_code_9 : decode jdk_43_method_2_code 9 = .ok (.sipush 255, 3) := by decide +kernel
theorem d_jdk_43_method_2_code_12 : decode jdk_43_method_2_code 12 = .ok (.iand, 1) := by decide +kernel
theorem d_jdk_43_method_2_code_13 : decode jdk_43_method_2_code 13 = .ok (.i2c, 1) := by decide +kernel
theorem d_jdk_43_method_2_code_14 : decode jdk_43_method_2_code 14 = .ok (.ireturn, 1) := by decide +kernel
theorem pd_4 : parseMethodDescriptor "(II)V" = some ⟨[.int, .int], none⟩ := by decide +kernel
theorem pn_java_lang_StringLatin1 : plainName "java/lang/StringLatin1" = true := by first | (simp [plainName, overriddenIn]; done) | decide +kernel
theorem ef_l1ch (mi : MethodId) (t : Addr) (j : Int32) : entryFrame mi #[(.ref t), (.int j)] 2 = mkF mi 0 #[.val (.ref t), .val (.int j)] [] := by first | (simp [entryFrame, mkF, argsToLocals, Value.category]; done) | rfl
def Q_l1ch (Z : State) (t : Addr) (j : Int32) (kb : ClassId) (cs : List Int32) (i : Nat) (fm : Value) (hE : Heap) (n0 : Nat) (vv : Option Value) (hh : Heap) (LL : List Loc) : Prop := (vv = some (.int (cs.getD i 0))) ∧ (Fr n0 LL) ∧ (hh = hE)
set_option maxRecDepth 65536 in
set_option maxHeartbeats 40000000 in
theorem rm_l1ch (la : Launch) (Z : State) (a0 : Array Value) (hw : ∀ d ∈ tables_1, d.before a0 Z = true) (ws : List Jvm.Cond) (t : Addr) (j : Int32) (kb : ClassId) (cs : List Int32) (i : Nat) (fm : Value) (hE : Heap) (n0 : Nat) (O : Old Z n0 hE) (P0_ : Arv Z hE t kb .byte (Int32.ofNat cs.length) (cs.map fun c => Value.int c.toInt8.toInt32) (.int (0 : Int32))) (D0_ : Sta Z Z.heap "jdk/internal/util/Preconditions" "SIOOBE_FORMATTER" "Ljava/util/function/BiFunction;" fm) (hj : j = Int32.ofNat i) (hi : i < cs.length) (hl : cs.length ≤ 4000) (hbd : ∀ c ∈ cs, ¬ c < 0 ∧ ¬ (255 : Int32) < c) (hfm : fm.isRef = true) :
    MetFree la mn10 (head1 (Jvm.Cond.code mn10 jdk_43_method_2_code 2 (some .char) :: ws) ({ frames := 2, cells := 0, slots := 0, locals := 27 } : Room)) (fun aa UU => aa = #[(.ref t), (.int j)] ∧ Z.Warmed39 UU.vm ∧ UU.heap = hE) (fun _ _ _ _ _ => True) (fun _ UU oo UV => ∃ vv LL, oo = .returned vv ∧ Q_l1ch Z t j kb cs i fm hE n0 vv UV.heap LL ∧ FrameEnd UU oo UV LL ({ frames := 2, cells := 0, slots := 0, locals := 27 } : Room).cells ({ frames := 2, cells := 0, slots := 0, locals := 27 } : Room).slots) := by
  refine MetFree.of_bodySF (plainFor_of_name pn_java_lang_StringLatin1) hisR ?_
  intro pg ev sb mi gs below me cd s₁ Bd hml0 hPt hKt
  obtain ⟨rfl, hZ, hh⟩ := hPt
  have hx := Bd.exec
  have hby := Bd.bytes
  have hml : cd.maxLocals = 2 := hml0
  have hown : sb.vm.findClass "java/lang/StringLatin1" = some mi.cls := findClass_of_methodNamed Bd.named
  have hnm := (name_of_methodNamed Bd.named Bd.method).1
  have X0 : Stand pg la ev ({ frames := 2, cells := 0, slots := 0, locals := 27 } : Room) sb mi #[(.ref t), (.int j)] below me cd s₁ [] 0 0 := Stand.of_body Bd
  have eE : s₁.heap = hE := by rw [← hh, Bd.state]; rfl
  have N0 := Fr.nil n0
  have pre0 : ∀ tt, Steps pg.tables ev below (s₁.setTop (mkF mi 0 #[.val (.ref t), .val (.int j)] [])) tt → Steps pg.tables ev below (s₁.setTop (entryFrame mi #[(.ref t), (.int j)] 2)) tt := fun tt kk => castTop (ef_l1ch mi t j) kk
  obtain ⟨cl101, Ar101, -, Sz101, Nn101, -, -⟩ := id P0_
  obtain ⟨v102, _, ⟨T102, L102, k102, n102⟩, -, X102, ⟨Lc102, hQ102, l102, y102, z102⟩, st102⟩ := Jvm.LawKit.callS X0 hx (y := mn9) hown (mvT hZ (wd152 hw)) (mvT hZ (wd153 hw)) (mvT hZ (wd50 hw)) (mvT hZ (wd154 hw)) (by decide) (backOf (W := 0) (rm_schk la Z a0 hw [] j (Int32.ofNat cs.length) fm hE n0 O D0_ (own_j0 hj hi hl : ¬ (j < (0 : Int32))) (own_jn hj hi hl : j < (Int32.ofNat cs.length)) (hfm : fm.isRef = true)) hZ (wd154 hw) (wd50 hw) (by decide) (by decide)) (g := (mkF mi 3 #[.val (.ref t), .val (.int j)] [(.int (Int32.ofNat cs.length)), (.int j)])) rfl (by rw [hml]; rfl) (argsL := [(.int j), (.int (Int32.ofNat cs.length))]) (rest := []) (lenOf pd_4 rfl) rfl (by show 2 * 0 + _ ≤ _; exact Nat.le_of_eq rfl) (hb hby d_jdk_43_method_2_code_3) (fun _ _ => ⟨rfl, eE, (by decide : 0 + 0 ≤ _), (by decide : 0 + 0 ≤ _)⟩)
  dsimp only [Pt.U, Pt.locs, Pt.cells, Pt.slots] at X102 l102 y102 z102 st102 hQ102
  subst l102 y102 z102
  obtain ⟨rfl, Nq102, ek102⟩ := hQ102
  have N102 := Fr.app N0 Nq102
  obtain ⟨cl103, Ar103, -, Sz103, Nn103, Hh103, -⟩ := id P0_
  have hin103 : ¬ (j < 0 ∨ cl103.slots.size ≤ (j).toNatClampNeg) := inb_of Sz103 ⟨own_j0 hj hi hl, own_jn hj hi hl⟩
  have hat103 : cl103.slots[(j).toNatClampNeg]? = some (.int ((cs.getD i 0).toInt8.toInt32)) := Hh103.at hin103 (by rw [own_jt hj hi hl]; exact own_vs_at hi)
  obtain ⟨fs, hr, hrun, hended, hW, hsame⟩ := X102.leave (v := some (.int (nar .char ((((cs.getD i 0).toInt8.toInt32) &&& (255 : Int32)).toUInt32.toUInt16.toUInt32.toInt32)))) (fun hq => by rw [Bd.returns] at hq; cases hq)
  refine ⟨_, _, pre0 _ ?_, hrun, hended, _, _, rfl, ?_, ⟨_, rfl⟩, hW, hsame.mono (by decide) (by decide)⟩
  · show Steps pg.tables ev below (s₁.setTop (mkF mi 0 #[.val (.ref t), .val (.int j)] [])) _
    refine XS.iloadN X0.here hx rfl (hb hby d_jdk_43_method_2_code_0) rfl ?_
    show Steps pg.tables ev below (s₁.setTop (mkF mi 1 #[.val (.ref t), .val (.int j)] [(.int j)])) _
    refine XS.aloadN X0.here hx rfl (hb hby d_jdk_43_method_2_code_1) rfl rfl ?_
    show Steps pg.tables ev below (s₁.setTop (mkF mi 2 #[.val (.ref t), .val (.int j)] [(.ref t), (.int j)])) _
    refine X0.arraylength hx (cell := cl101) (by rw [eE]; exact Ar101.1) (State.isArrayOf_alike hZ.alike Ar101.2.1) (g := (mkF mi 2 #[.val (.ref t), .val (.int j)] [(.ref t), (.int j)])) rfl (rest := [(.int j)]) rfl (hb hby d_jdk_43_method_2_code_2) _ ?_
    rw [len_of Sz101 Nn101]
    show Steps pg.tables ev below (s₁.setTop (mkF mi 3 #[.val (.ref t), .val (.int j)] [(.int (Int32.ofNat cs.length)), (.int j)])) _
    refine st102 _ ?_
    show Steps pg.tables ev below (T102.setTop (mkF mi 6 #[.val (.ref t), .val (.int j)] [])) _
    refine XS.aloadN X102.here hx rfl (hb hby d_jdk_43_method_2_code_6) rfl rfl ?_
    show Steps pg.tables ev below (T102.setTop (mkF mi 7 #[.val (.ref t), .val (.int j)] [(.ref t)])) _
    refine XS.iloadN X102.here hx rfl (hb hby d_jdk_43_method_2_code_7) rfl ?_
    show Steps pg.tables ev below (T102.setTop (mkF mi 8 #[.val (.ref t), .val (.int j)] [(.int j), (.ref t)])) _
    refine X102.baloadBytes hx (j := j) (v := (.int ((cs.getD i 0).toInt8.toInt32))) (by rw [ek102]; exact Ar103.1) (State.isArrayOf_alike hZ.alike Ar103.2.1) Ar103.2.2 hin103 hat103 (g := (mkF mi 8 #[.val (.ref t), .val (.int j)] [(.int j), (.ref t)])) rfl rfl (hb hby d_jdk_43_method_2_code_8) _ ?_
    show Steps pg.tables ev below (T102.setTop (mkF mi 9 #[.val (.ref t), .val (.int j)] [(.int ((cs.getD i 0).toInt8.toInt32))])) _
    refine XS.sipush X102.here hx rfl (hb hby d_jdk_43_method_2_code_9) ?_
    show Steps pg.tables ev below (T102.setTop (mkF mi 12 #[.val (.ref t), .val (.int j)] [(.int (255 : Int32)), (.int ((cs.getD i 0).toInt8.toInt32))])) _
    refine XS.iand X102.here hx rfl (hb hby d_jdk_43_method_2_code_12) rfl ?_
    show Steps pg.tables ev below (T102.setTop (mkF mi 13 #[.val (.ref t), .val (.int j)] [(.int (((cs.getD i 0).toInt8.toInt32) &&& (255 : Int32)))])) _
    refine XS.i2c X102.here hx rfl (hb hby d_jdk_43_method_2_code_13) rfl ?_
    show Steps pg.tables ev below (T102.setTop (mkF mi 14 #[.val (.ref t), .val (.int j)] [(.int ((((cs.getD i 0).toInt8.toInt32) &&& (255 : Int32)).toUInt32.toUInt16.toUInt32.toInt32))])) _
    exact retN X102 hx (t := .char) Bd.returns (by simp) (hb hby d_jdk_43_method_2_code_14) hr
  · show Q_l1ch Z t j kb cs i fm hE n0 _ T102.heap _
    rw [ek102]
    exact ⟨(congrArg (fun z => some (Value.int z)) (own_ch_back (hbd _ (own_getD_mem hi)))), N102, rfl⟩
theorem d_jdk_42_method_56_code_0 : decode jdk_42_method_56_code 0 = .ok (.aload_n 0, 1) := by decide +kernel
theorem d_jdk_42_method_56_code_1 : decode jdk_42_method_56_code 1 = .ok (.invokevirtual 492, 3) := by decide +kernel
theorem d_jdk_42_method_56_code_4 : decode jdk_42_method_56_code 4 = .ok (.ifCond .eq 12, 3) := by decide +kernel
theorem d_jdk_42_method_56_code_7 : decode jdk_42_method_56_code 7 = .ok (.aload_n 0, 1) := by decide +kernel
theorem d_jdk_42_method_56_code_8 : decode jdk_42_method_56_code 8 = .ok (.getfield 9, 3) := by decide +kernel
theorem d_jdk_42_method_56_code_11 : decode jdk_42_method_56_code 11 = .ok (.iload_n 1, 1) := by decide +kernel
theorem d_jdk_42_method_56_code_12 : decode jdk_42_method_56_code 12 = .ok (.invokestatic 495, 3) := by decide +kernel
theorem d_jdk_42_method_56_code_15 : decode jdk_42_method_56_code 15 = .ok (.ireturn, 1) := by decide +kernel
theorem pd_5 : parseMethodDescriptor "()Z" = some ⟨[], some .boolean⟩ := by decide +kernel
theorem pd_6 : parseMethodDescriptor "([BI)C" = some ⟨[(.array .byte), .int], some .char⟩ := by decide +kernel
theorem ef_sch (mi : MethodId) (x : Addr) (j : Int32) : entryFrame mi #[(.ref x), (.int j)] 2 = mkF mi 0 #[.val (.ref x), .val (.int j)] [] := by first | (simp [entryFrame, mkF, argsToLocals, Value.category]; done) | rfl
def Q_sch (Z : State) (x : Addr) (j : Int32) (t : Addr) (cs : List Int32) (i : Nat) (zc : Int32) (fm : Value) (hE : Heap) (n0 : Nat) (vv : Option Value) (hh : Heap) (LL : List Loc) : Prop := (vv = some (.int (cs.getD i 0))) ∧ (Fr n0 LL) ∧ (hh = hE)
set_option maxRecDepth 65536 in
set_option maxHeartbeats 40000000 in
theorem rm_sch (la : Launch) (Z : State) (a0 : Array Value) (hw : ∀ d ∈ tables_1, d.before a0 Z = true) (ws : List Jvm.Cond) (x : Addr) (j : Int32) (t : Addr) (cs : List Int32) (i : Nat) (zc : Int32) (fm : Value) (hE : Heap) (n0 : Nat) (O : Old Z n0 hE) (P0_ : LStr Z hE x t cs) (D0_ : Sta Z Z.heap "java/lang/String" "COMPACT_STRINGS" "Z" (.int zc)) (D1_ : Sta Z Z.heap "jdk/internal/util/Preconditions" "SIOOBE_FORMATTER" "Ljava/util/function/BiFunction;" fm) (hj : j = Int32.ofNat i) (hi : i < cs.length) (hzc : ¬ (zc = (0 : Int32))) (hfm : fm.isRef = true) :
    MetFree la mn11 (head1 (Jvm.Cond.code mn11 jdk_42_method_56_code 2 (some .char) :: ws) ({ frames := 3, cells := 0, slots := 0, locals := 40 } : Room)) (fun aa UU => aa = #[(.ref x), (.int j)] ∧ Z.Warmed39 UU.vm ∧ UU.heap = hE) (fun _ _ _ _ _ => True) (fun _ UU oo UV => ∃ vv LL, oo = .returned vv ∧ Q_sch Z x j t cs i zc fm hE n0 vv UV.heap LL ∧ FrameEnd UU oo UV LL ({ frames := 3, cells := 0, slots := 0, locals := 40 } : Room).cells ({ frames := 3, cells := 0, slots := 0, locals := 40 } : Room).slots) := by
  refine MetFree.of_bodySF (plainFor_of_name pn_java_lang_String) hisR ?_
  intro pg ev sb mi gs below me cd s₁ Bd hml0 hPt hKt
  obtain ⟨rfl, hZ, hh⟩ := hPt
  have hx := Bd.exec
  have hby := Bd.bytes
  have hml : cd.maxLocals = 2 := hml0
  have hown : sb.vm.findClass "java/lang/String" = some mi.cls := findClass_of_methodNamed Bd.named
  have hnm := (name_of_methodNamed Bd.named Bd.method).1
  have X0 : Stand pg la ev ({ frames := 3, cells := 0, slots := 0, locals := 40 } : Room) sb mi #[(.ref x), (.int j)] below me cd s₁ [] 0 0 := Stand.of_body Bd
  have eE : s₁.heap = hE := by rw [← hh, Bd.state]; rfl
  have N0 := Fr.nil n0
  have pre0 : ∀ tt, Steps pg.tables ev below (s₁.setTop (mkF mi 0 #[.val (.ref x), .val (.int j)] [])) tt → Steps pg.tables ev below (s₁.setTop (entryFrame mi #[(.ref x), (.int j)] 2)) tt := fun tt kk => castTop (ef_sch mi x j) kk
  obtain ⟨sE101, sV101, sC101, ⟨kb101, sK101⟩, sb101, sl101⟩ := id P0_
  obtain ⟨cq102, kq102, q102a, q102b, q102c⟩ := isOf hZ eE sE101
  obtain ⟨v102, _, ⟨T102, L102, k102, n102⟩, -, X102, ⟨Lc102, hQ102, l102, y102, z102⟩, st102⟩ := X0.virtualBack hx (y := mn7) (z := mn7) hown (mvT hZ (wd143 hw)) (mvT hZ (wd144 hw)) (notFace_of_selects (args := #[]) (mvT hZ (wd146 hw))) (mvT hZ (wd146 hw)) (mvT hZ (wd145 hw)) (by decide) (backOf (W := 0) (rm_isl1 la Z a0 hw [] x zc hE n0 O sC101 D0_ (hzc : ¬ (zc = (0 : Int32)))) hZ (wd147 hw) (wd50 hw) (by decide) (by decide)) q102a q102c (g := (mkF mi 1 #[.val (.ref x), .val (.int j)] [(.ref x)])) rfl (by rw [hml]; rfl) (Steps.refl _) (argsL := []) (rest := []) (lenOf pd_5 rfl) rfl (by show 2 * 0 + _ ≤ _; exact Nat.le_of_eq rfl) (hb hby d_jdk_42_method_56_code_1) (fun _ _ => ⟨rfl, eE, (by decide : 0 + 0 ≤ _), (by decide : 0 + 0 ≤ _)⟩)
  dsimp only [Pt.U, Pt.locs, Pt.cells, Pt.slots] at X102 l102 y102 z102 st102 hQ102
  subst l102 y102 z102
  obtain ⟨rfl, Nq102, ek102⟩ := hQ102
  have N102 := Fr.app N0 Nq102
  obtain ⟨T103, X103, e103, st103⟩ := getF X102 hx hZ hown (host := "") (Or.inl (wd63 hw)) Via.refl ek102 sV101 (g := (mkF mi 8 #[.val (.ref x), .val (.int j)] [(.ref x)])) rfl rfl (hb hby d_jdk_42_method_56_code_8)
  obtain ⟨v104, _, ⟨T104, L104, k104, n104⟩, -, X104, ⟨Lc104, hQ104, l104, y104, z104⟩, st104⟩ := Jvm.LawKit.callS X103 hx (y := mn10) hown (mvT hZ (wd148 hw)) (mvT hZ (wd149 hw)) (mvT hZ (wd150 hw)) (mvT hZ (wd151 hw)) (by decide) (backOf (W := 0) (rm_l1ch la Z a0 hw [] t j kb101 cs i fm hE n0 O sK101 D1_ (hj : j = Int32.ofNat i) (hi : i < cs.length) (sl101 : cs.length ≤ 4000) (sb101 : ∀ c ∈ cs, ¬ c < 0 ∧ ¬ (255 : Int32) < c) (hfm : fm.isRef = true)) hZ (wd151 hw) (wd150 hw) (by decide) (by decide)) (g := (mkF mi 12 #[.val (.ref x), .val (.int j)] [(.int j), (.ref t)])) rfl (by rw [hml]; rfl) (argsL := [(.ref t), (.int j)]) (rest := []) (lenOf pd_6 rfl) rfl (by show 2 * 0 + _ ≤ _; exact Nat.le_of_eq rfl) (hb hby d_jdk_42_method_56_code_12) (fun _ _ => ⟨rfl, e103, (by decide : 0 + 0 ≤ _), (by decide : 0 + 0 ≤ _)⟩)
  dsimp only [Pt.U, Pt.locs, Pt.cells, Pt.slots] at X104 l104 y104 z104 st104 hQ104
  subst l104 y104 z104
  obtain ⟨rfl, Nq104, ek104⟩ := hQ104
  have N104 := Fr.app N102 Nq104
  obtain ⟨fs, hr, hrun, hended, hW, hsame⟩ := X104.leave (v := some (.int (nar .char (cs.getD i 0)))) (fun hq => by rw [Bd.returns] at hq; cases hq)
  refine ⟨_, _, pre0 _ ?_, hrun, hended, _, _, rfl, ?_, ⟨_, rfl⟩, hW, hsame.mono (by decide) (by decide)⟩
  · show Steps pg.tables ev below (s₁.setTop (mkF mi 0 #[.val (.ref x), .val (.int j)] [])) _
    refine XS.aloadN X0.here hx rfl (hb hby d_jdk_42_method_56_code_0) rfl rfl ?_
    show Steps pg.tables ev below (s₁.setTop (mkF mi 1 #[.val (.ref x), .val (.int j)] [(.ref x)])) _
    refine st102.trans ?_
    show Steps pg.tables ev below (T102.setTop (mkF mi 4 #[.val (.ref x), .val (.int j)] [(.int (1 : Int32))])) _
    refine XS.ifNo X102.here hx rfl (hb hby d_jdk_42_method_56_code_4) rfl ((if0 _ _).trans (feq (by decide : ¬ ((1 : Int32) = (0 : Int32)))).1) ?_
    show Steps pg.tables ev below (T102.setTop (mkF mi 7 #[.val (.ref x), .val (.int j)] [])) _
    refine XS.aloadN X102.here hx rfl (hb hby d_jdk_42_method_56_code_7) rfl rfl ?_
    show Steps pg.tables ev below (T102.setTop (mkF mi 8 #[.val (.ref x), .val (.int j)] [(.ref x)])) _
    refine st103 _ ?_
    show Steps pg.tables ev below (T103.setTop (mkF mi 11 #[.val (.ref x), .val (.int j)] [(.ref t)])) _
    refine XS.iloadN X103.here hx rfl (hb hby d_jdk_42_method_56_code_11) rfl ?_
    show Steps pg.tables ev below (T103.setTop (mkF mi 12 #[.val (.ref x), .val (.int j)] [(.int j), (.ref t)])) _
    refine st104 _ ?_
    show Steps pg.tables ev below (T104.setTop (mkF mi 15 #[.val (.ref x), .val (.int j)] [(.int (cs.getD i 0))])) _
    exact retN X104 hx (t := .char) Bd.returns (by simp) (hb hby d_jdk_42_method_56_code_15) hr
  · show Q_sch Z x j t cs i zc fm hE n0 _ T104.heap _
    rw [ek104]
    exact ⟨(congrArg (fun z => some (Value.int z)) (own_nar_c (sb101 _ (own_getD_mem hi)))), N104, rfl⟩
theorem d_jdk_33_method_10_code_0 : decode jdk_33_method_10_code 0 = .ok (.iload_n 0, 1) := by decide +kernel
theorem d_jdk_33_method_10_code_1 : decode jdk_33_method_10_code 1 = .ok (.invokestatic 72, 3) := by decide +kernel
theorem d_jdk_33_method_10_code_4 : decode jdk_33_method_10_code 4 = .ok (.istore_n 1, 1) := by decide +kernel
theorem d_jdk_33_method_10_code_5 : decode jdk_33_method_10_code 5 = .ok (.getstatic 13, 3) := by decide +kernel
theorem d_jdk_33_method_10_code_8 : decode jdk_33_method_10_code 8 = .ok (.ifCond .eq 24, 3) := by decide +kernel
theorem d_jdk_33_method_10_code_11 : decode jdk_33_method_10_code 11 = .ok (.iload_n 1, 1) := by decide +kernel
theorem d_jdk_33_method_10_code_12 : decode jdk_33_method_10_code 12 = .ok (.newarray .byte, 2) := by decide +kernel
theorem d_jdk_33_method_10_code_14 : decode jdk_33_method_10_code 14 = .ok (.astore_n 2, 1) := by decide +kernel
theorem d_jdk_33_method_10_code_15 : decode jdk_33_method_10_code 15 = .ok (.iload_n 0, 1) := by decide +kernel
theorem d_jdk_33_method_10_code_16 : decode jdk_33_method_10_code 16 = .ok (.iload_n 1, 1) := by decide +kernel
theorem d_jdk_33_method_10_code_17 : decode jdk_33_method_10_code 17 = .ok (.aload_n 2, 1) := by decide +kernel
theorem d_jdk_33_method_10_code_18 : decode jdk_33_method_10_code 18 = .ok (.invokestatic 75, 3) := by decide +kernel
theorem d_jdk_33_method_10_code_21 : decode jdk_33_method_10_code 21 = .ok (.pop, 1) := by decide +kernel
theorem d_jdk_33_method_10_code_22 : decode jdk_33_method_10_code 22 = .ok (.new 5, 3) := by decide +kernel
theorem d_jdk_33_method_10_code_25 : decode jdk_33_method_10_code 25 = .ok (.dup, 1) := by decide +kernel
theorem d_jdk_33_method_10_code_26 : decode jdk_33_method_10_code 26 = .ok (.aload_n 2, 1) := by decide +kernel
theorem d_jdk_33_method_10_code_27 : decode jdk_33_method_10_code 27 = .ok (.iconst 0, 1) := by decide +kernel
theorem d_jdk_33_method_10_code_28 : decode jdk_33_method_10_code 28 = .ok (.invokespecial 65, 3) := by decide +kernel
theorem d_jdk_33_method_10_code_31 : decode jdk_33_method_10_code 31 = .ok (.areturn, 1) := by decide +kernel
theorem pd_7 : parseMethodDescriptor "(I)I" = some ⟨[.int], some .int⟩ := by decide +kernel
theorem pd_8 : parseMethodDescriptor "(II[B)I" = some ⟨[.int, .int, (.array .byte)], some .int⟩ := by decide +kernel
theorem pd_9 : parseMethodDescriptor "([BB)V" = some ⟨[(.array .byte), .byte], none⟩ := by decide +kernel
theorem pn_java_lang_Integer : plainName "java/lang/Integer" = true := by first | (simp [plainName, overriddenIn]; done) | decide +kernel
theorem ef_its (mi : MethodId) (p : Int32) : entryFrame mi #[(.int p)] 3 = mkF mi 0 #[.val (.int p), .unset, .unset] [] := by first | (simp [entryFrame, mkF, argsToLocals, Value.category]; done) | rfl
def Q_its (Z : State) (p : Int32) (zc : Int32) (sg : Addr) (d1 : Addr) (D1 : Cell) (d2 : Addr) (D2 : Cell) (hE : Heap) (n0 : Nat) (vv : Option Value) (hh : Heap) (LL : List Loc) : Prop := ∃ x : Addr, ∃ t : Addr, (vv = some (.ref x)) ∧ (Fr n0 LL) ∧ (Keep hE hh []) ∧ (hE.size ≤ x) ∧ (hE.size ≤ t) ∧ (LStr Z hh x t (dch p.toNatClampNeg))
set_option maxRecDepth 65536 in
set_option maxHeartbeats 40000000 in
theorem rm_its (la : Launch) (Z : State) (a0 : Array Value) (hw : ∀ d ∈ tables_1, d.before a0 Z = true) (ws : List Jvm.Cond) (p : Int32) (zc : Int32) (sg : Addr) (d1 : Addr) (D1 : Cell) (d2 : Addr) (D2 : Cell) (hE : Heap) (n0 : Nat) (O : Old Z n0 hE) (D0_ : Sta Z Z.heap "java/lang/String" "COMPACT_STRINGS" "Z" (.int zc)) (hp : ¬ (p < (0 : Int32))) (hzc : ¬ (zc = (0 : Int32))) (hT1 : Jvm.Free.SBG.Tbl Z "DigitOnes" sg d1 D1) (hT2 : Jvm.Free.SBG.Tbl Z "DigitTens" sg d2 D2) (hO1 : Jvm.Free.SBG.Ones D1) (hO2 : Jvm.Free.SBG.Tens D2) :
    MetFree la mn14 (head1 (Jvm.Cond.code mn14 jdk_33_method_10_code 3 (some (.object "java/lang/String")) :: ws) ({ frames := 2, cells := 2, slots := 14, locals := 78 } : Room)) (fun aa UU => aa = #[(.int p)] ∧ Z.Warmed39 UU.vm ∧ UU.heap = hE) (fun _ _ _ _ _ => True) (fun _ UU oo UV => ∃ vv LL, oo = .returned vv ∧ Q_its Z p zc sg d1 D1 d2 D2 hE n0 vv UV.heap LL ∧ FrameEnd UU oo UV LL ({ frames := 2, cells := 2, slots := 14, locals := 78 } : Room).cells ({ frames := 2, cells := 2, slots := 14, locals := 78 } : Room).slots) := by
  refine MetFree.of_bodySF (plainFor_of_name pn_java_lang_Integer) hisR ?_
  intro pg ev sb mi gs below me cd s₁ Bd hml0 hPt hKt
  obtain ⟨rfl, hZ, hh⟩ := hPt
  have hx := Bd.exec
  have hby := Bd.bytes
  have hml : cd.maxLocals = 3 := hml0
  have hown : sb.vm.findClass "java/lang/Integer" = some mi.cls := findClass_of_methodNamed Bd.named
  have hnm := (name_of_methodNamed Bd.named Bd.method).1
  have X0 : Stand pg la ev ({ frames := 2, cells := 2, slots := 14, locals := 78 } : Room) sb mi #[(.int p)] below me cd s₁ [] 0 0 := Stand.of_body Bd
  have eE : s₁.heap = hE := by rw [← hh, Bd.state]; rfl
  have N0 := Fr.nil n0
  have pre0 : ∀ tt, Steps pg.tables ev below (s₁.setTop (mkF mi 0 #[.val (.int p), .unset, .unset] [])) tt → Steps pg.tables ev below (s₁.setTop (entryFrame mi #[(.int p)] 3)) tt := fun tt kk => castTop (ef_its mi p) kk
  obtain ⟨v101, _, ⟨T101, L101, k101, n101⟩, -, X101, ⟨⟨hh101, l101, y101, z101⟩, hv101⟩, st101⟩ := Jvm.LawKit.callS X0 hx (y := mn12) hown (mvT hZ (wd46 hw)) (mvT hZ (wd47 hw)) (mvT hZ (wd44 hw)) (mvT hZ (wd48 hw)) (by decide) (Jvm.Free.SBG.StrSize.pays (W := 0) (by decide) (by decide) (own_tab1 hw hZ) (mvT hZ (wd44 hw))) (g := (mkF mi 1 #[.val (.int p), .unset, .unset] [(.int p)])) rfl (by rw [hml]; rfl) (argsL := [(.int p)]) (rest := []) (lenOf pd_7 rfl) rfl (by show 2 * 0 + _ ≤ _; exact Nat.le_of_eq rfl) (hb hby d_jdk_33_method_10_code_1) (fun _ _ => ⟨(by show (0 : Nat) ≤ _; decide), (by show (0 : Nat) ≤ _; decide), p, rfl⟩)
  dsimp only [Pt.U, Pt.locs, Pt.cells, Pt.slots] at X101 l101 y101 z101 st101 hh101 hv101
  obtain rfl := hv101 p rfl
  subst l101 y101 z101
  have hh101' : T101.heap = hE := hh101.trans eE
  have pre102 : ∀ tt, Steps pg.tables ev below (T101.setTop (mkF mi 4 #[.val (.int p), .unset, .unset] [(.int (Jvm.Free.SBG.strSizeOf p))])) tt → Steps pg.tables ev below (s₁.setTop (entryFrame mi #[(.int p)] 3)) tt := fun tt kk => pre0 _ (by
    show Steps pg.tables ev below (s₁.setTop (mkF mi 0 #[.val (.int p), .unset, .unset] [])) _
    refine XS.iloadN X0.here hx rfl (hb hby d_jdk_33_method_10_code_0) rfl ?_
    show Steps pg.tables ev below (s₁.setTop (mkF mi 1 #[.val (.int p), .unset, .unset] [(.int p)])) _
    refine st101 _ ?_
    exact kk)
  have pre103 : ∀ tt, Steps pg.tables ev below (T101.setTop (mkF mi 4 #[.val (.int p), .unset, .unset] [(.int (Int32.ofNat (Jvm.Free.SBG.digits p.toNatClampNeg)))])) tt → Steps pg.tables ev below (s₁.setTop (entryFrame mi #[(.int p)] 3)) tt := fun tt kk => pre102 tt (by rw [own_size hp]; exact kk)
  obtain ⟨T104, X104, e104, st104⟩ := getS2 X101 hx hZ hown (host := "") (Or.inl (wd49 hw)) Via.refl hh101' (D0_.ext O.2) (g := (mkF mi 5 #[.val (.int p), .val (.int (Int32.ofNat (Jvm.Free.SBG.digits p.toNatClampNeg))), .unset] [])) rfl (hb hby d_jdk_33_method_10_code_5)
  obtain ⟨T105, h105, k105, X105, e105, E105, A105, st105⟩ := newP (aty := .byte) X104 hx hZ (wd51 hw) e104 (g := (mkF mi 12 #[.val (.int p), .val (.int (Int32.ofNat (Jvm.Free.SBG.digits p.toNatClampNeg))), .unset] [(.int (Int32.ofNat (Jvm.Free.SBG.digits p.toNatClampNeg)))])) rfl (hb hby d_jdk_33_method_10_code_12) rfl (own_dig_nn p) (cap := 10) (own_dig_le p) (by decide) (by decide) (by decide)
  obtain ⟨b105, q105⟩ : ∃ z, z = hE.size := ⟨_, rfl⟩
  rw [← q105] at A105 st105
  have g_b105 : n0 ≤ b105 := Nat.le_trans (Nat.le_trans (Nat.le_of_eq O.1.symm) O.2.1) (Nat.le_of_eq q105.symm)
  have O107 : Old Z n0 h105 := (O.ext E105)
  obtain ⟨v106, _, ⟨T106, L106, k106, n106⟩, -, X106, ⟨hv106, hc106, y106, z106, hz106, ho106, Lc106, l106, hL106⟩, st106⟩ := Jvm.LawKit.callS X105 hx (y := mn13) hown (mvT hZ (wd52 hw)) (mvT hZ (wd53 hw)) (mvT hZ (wd44 hw)) (mvT hZ (wd54 hw)) (by decide) (Jvm.Free.SBG.GetChars.pays (own_g p b105 k105 sg d1 D1 d2 D2) 0 (own_tab2 hw hZ) (mvT hZ (wd44 hw)) (by decide) (by decide)) (g := (mkF mi 18 #[.val (.int p), .val (.int (Int32.ofNat (Jvm.Free.SBG.digits p.toNatClampNeg))), .val (.ref b105)] [(.ref b105), (.int (Int32.ofNat (Jvm.Free.SBG.digits p.toNatClampNeg))), (.int p)])) rfl (by rw [hml]; rfl) (argsL := [(.int p), (.int (Int32.ofNat (Jvm.Free.SBG.digits p.toNatClampNeg))), (.ref b105)]) (rest := []) (lenOf pd_8 rfl) rfl (by show 2 * 0 + _ ≤ _; exact Nat.le_of_eq rfl) (hb hby d_jdk_33_method_10_code_18) (fun vm₁ hvm => ⟨rfl, (by show (1 : Nat) ≤ _; decide), (by show (10 : Nat) ≤ _; decide), own_gcP (hZ.alike.trans hvm.alike) e105 O107 g_b105 A105 hp hT1 hT2⟩)
  dsimp only [Pt.U, Pt.locs, Pt.cells, Pt.slots] at X106 l106 y106 z106 st106 hv106 hc106 hz106 ho106
  subst hv106
  subst l106 y106 z106
  have N106 : Fr n0 _ := Fr.app N0 (fun y hy => by rw [hL106 y hy]; exact g_b105)
  obtain ⟨Kq106, kb106, nb106, vs106, V106, cod106⟩ := own_gcQ (h := h105) (h' := T106.heap) A105 hc106 (by rw [← e105]; exact hz106) (fun y cy q r => ho106 y cy q (by rw [← e105] at r; exact r)) hO1 hO2 hp
  obtain ⟨T108, h108, X108, e108, E108, A108, D108, -, st108⟩ := newO X106 hx hZ hown (wd56 hw) (wd57 hw) (wd50 hw) rfl (g := (mkF mi 22 #[.val (.int p), .val (.int (Int32.ofNat (Jvm.Free.SBG.digits p.toNatClampNeg))), .val (.ref b105)] [])) rfl (hb hby d_jdk_33_method_10_code_22) (by decide) (by decide)
  obtain ⟨b108, q108⟩ : ∃ z, z = T106.heap.size := ⟨_, rfl⟩
  rw [← q108] at A108 D108 st108
  have f109 : Fld Z h108 b108 "java/lang/String" "value" "[B" .null := D108 (Or.inr (wd64 hw)) (ty := (.array .byte)) (by decide)
  have f110 : Fld Z h108 b108 "java/lang/String" "coder" "B" (.int (0 : Int32)) := D108 (Or.inr (wd66 hw)) (ty := .byte) (by decide)
  have O111 : Old Z n0 h108 := ((O107.keep Kq106 (allS g_b105 all0)).ext E108)
  have O112 : Old Z n0 T106.heap := (O107.keep Kq106 (allS g_b105 all0))
  have g_b108 : n0 ≤ b108 := Nat.le_trans (Nat.le_trans (Nat.le_of_eq O112.1.symm) O112.2.1) (Nat.le_of_eq q108.symm)
  obtain ⟨v113, _, ⟨T113, L113, k113, n113⟩, -, X113, ⟨Lc113, hQ113, l113, y113, z113⟩, st113⟩ := X108.specialBack hx (y := mn4) rfl hown (mvT hZ (wd58 hw)) (mvT hZ (wd59 hw)) (mvT hZ (wd61 hw)) (by decide) (backOf (W := 1) (rm_sin la Z a0 hw [] b108 b105 h108 n0 O111 A108 f109 f110 g_b108) hZ (wd61 hw) (wd50 hw) (by decide) (by decide)) (g := (mkF mi 28 #[.val (.int p), .val (.int (Int32.ofNat (Jvm.Free.SBG.digits p.toNatClampNeg))), .val (.ref b105)] [(.int (0 : Int32)), (.ref b105), (.ref b108), (.ref b108)])) rfl (by rw [hml]; rfl) (Steps.refl _) (a := b108) (argsL := [(.ref b105), (.int (0 : Int32))]) (rest := [(.ref b108)]) (lenOf pd_9 rfl) rfl (by show 2 * 0 + _ ≤ _; exact Nat.le_of_eq rfl) (hb hby d_jdk_33_method_10_code_28) (fun _ _ => ⟨rfl, e108, (by decide : 2 + 0 ≤ _), (by decide : 14 + 0 ≤ _)⟩)
  dsimp only [Pt.U, Pt.locs, Pt.cells, Pt.slots] at X113 l113 y113 z113 st113 hQ113
  subst l113 y113 z113
  obtain ⟨rfl, Nq113, Kq113, r113_0, r113_1, r113_2⟩ := hQ113
  have N113 := Fr.app N106 Nq113
  have ne_b105_b108 : b105 ≠ b108 := Nat.ne_of_lt (Nat.lt_of_lt_of_le A105.lt (Nat.le_trans Kq106.1 (Nat.le_of_eq q108.symm)))
  have f115 : Arv Z T113.heap b105 kb106 .byte nb106 vs106 (.int (0 : Int32)) := ((V106.ext E108).keep Kq113 (ninS ne_b105_b108 nin0))
  have s114 : LStr Z T113.heap b108 b105 (dch p.toNatClampNeg) := ⟨r113_0, r113_1, r113_2, ⟨_, (by rw [← cod106.1, ← cod106.2]; exact f115)⟩, own_dch_bd _, own_dch_len _⟩
  obtain ⟨fs, hr, hrun, hended, hW, hsame⟩ := X113.leave (v := some (.ref b108)) (fun hq => by rw [Bd.returns] at hq; cases hq)
  refine ⟨_, _, pre103 _ ?_, hrun, hended, _, _, rfl, ?_, ⟨_, rfl⟩, hW, hsame.mono (by decide) (by decide)⟩
  · show Steps pg.tables ev below (T101.setTop (mkF mi 4 #[.val (.int p), .unset, .unset] [(.int (Int32.ofNat (Jvm.Free.SBG.digits p.toNatClampNeg)))])) _
    refine XS.istoreN X101.here hx rfl (hb hby d_jdk_33_method_10_code_4) rfl (l' := #[.val (.int p), .val (.int (Int32.ofNat (Jvm.Free.SBG.digits p.toNatClampNeg))), .unset]) rfl ?_
    show Steps pg.tables ev below (T101.setTop (mkF mi 5 #[.val (.int p), .val (.int (Int32.ofNat (Jvm.Free.SBG.digits p.toNatClampNeg))), .unset] [])) _
    refine st104 _ ?_
    show Steps pg.tables ev below (T104.setTop (mkF mi 8 #[.val (.int p), .val (.int (Int32.ofNat (Jvm.Free.SBG.digits p.toNatClampNeg))), .unset] [(.int zc)])) _
    refine XS.ifNo X104.here hx rfl (hb hby d_jdk_33_method_10_code_8) rfl ((if0 _ _).trans (feq hzc).1) ?_
    show Steps pg.tables ev below (T104.setTop (mkF mi 11 #[.val (.int p), .val (.int (Int32.ofNat (Jvm.Free.SBG.digits p.toNatClampNeg))), .unset] [])) _
    refine XS.iloadN X104.here hx rfl (hb hby d_jdk_33_method_10_code_11) rfl ?_
    show Steps pg.tables ev below (T104.setTop (mkF mi 12 #[.val (.int p), .val (.int (Int32.ofNat (Jvm.Free.SBG.digits p.toNatClampNeg))), .unset] [(.int (Int32.ofNat (Jvm.Free.SBG.digits p.toNatClampNeg)))])) _
    refine st105 _ ?_
    show Steps pg.tables ev below (T105.setTop (mkF mi 14 #[.val (.int p), .val (.int (Int32.ofNat (Jvm.Free.SBG.digits p.toNatClampNeg))), .unset] [(.ref b105)])) _
    refine XS.astoreN X105.here hx rfl (hb hby d_jdk_33_method_10_code_14) rfl rfl (l' := #[.val (.int p), .val (.int (Int32.ofNat (Jvm.Free.SBG.digits p.toNatClampNeg))), .val (.ref b105)]) rfl ?_
    show Steps pg.tables ev below (T105.setTop (mkF mi 15 #[.val (.int p), .val (.int (Int32.ofNat (Jvm.Free.SBG.digits p.toNatClampNeg))), .val (.ref b105)] [])) _
    refine XS.iloadN X105.here hx rfl (hb hby d_jdk_33_method_10_code_15) rfl ?_
    show Steps pg.tables ev below (T105.setTop (mkF mi 16 #[.val (.int p), .val (.int (Int32.ofNat (Jvm.Free.SBG.digits p.toNatClampNeg))), .val (.ref b105)] [(.int p)])) _
    refine XS.iloadN X105.here hx rfl (hb hby d_jdk_33_method_10_code_16) rfl ?_
    show Steps pg.tables ev below (T105.setTop (mkF mi 17 #[.val (.int p), .val (.int (Int32.ofNat (Jvm.Free.SBG.digits p.toNatClampNeg))), .val (.ref b105)] [(.int (Int32.ofNat (Jvm.Free.SBG.digits p.toNatClampNeg))), (.int p)])) _
    refine XS.aloadN X105.here hx rfl (hb hby d_jdk_33_method_10_code_17) rfl rfl ?_
    show Steps pg.tables ev below (T105.setTop (mkF mi 18 #[.val (.int p), .val (.int (Int32.ofNat (Jvm.Free.SBG.digits p.toNatClampNeg))), .val (.ref b105)] [(.ref b105), (.int (Int32.ofNat (Jvm.Free.SBG.digits p.toNatClampNeg))), (.int p)])) _
    refine st106 _ ?_
    show Steps pg.tables ev below (T106.setTop (mkF mi 21 #[.val (.int p), .val (.int (Int32.ofNat (Jvm.Free.SBG.digits p.toNatClampNeg))), .val (.ref b105)] [(.int (Int32.ofNat (Jvm.Free.SBG.digits p.toNatClampNeg - (Jvm.Free.SBG.digits p.toNatClampNeg + Jvm.Free.SBG.GetChars.sgn p))))])) _
    refine XS.pop X106.here hx rfl (hb hby d_jdk_33_method_10_code_21) rfl rfl ?_
    show Steps pg.tables ev below (T106.setTop (mkF mi 22 #[.val (.int p), .val (.int (Int32.ofNat (Jvm.Free.SBG.digits p.toNatClampNeg))), .val (.ref b105)] [])) _
    refine st108 _ ?_
    show Steps pg.tables ev below (T108.setTop (mkF mi 25 #[.val (.int p), .val (.int (Int32.ofNat (Jvm.Free.SBG.digits p.toNatClampNeg))), .val (.ref b105)] [(.ref b108)])) _
    refine XS.dup X108.here hx rfl (hb hby d_jdk_33_method_10_code_25) rfl rfl ?_
    show Steps pg.tables ev below (T108.setTop (mkF mi 26 #[.val (.int p), .val (.int (Int32.ofNat (Jvm.Free.SBG.digits p.toNatClampNeg))), .val (.ref b105)] [(.ref b108), (.ref b108)])) _
    refine XS.aloadN X108.here hx rfl (hb hby d_jdk_33_method_10_code_26) rfl rfl ?_
    show Steps pg.tables ev below (T108.setTop (mkF mi 27 #[.val (.int p), .val (.int (Int32.ofNat (Jvm.Free.SBG.digits p.toNatClampNeg))), .val (.ref b105)] [(.ref b105), (.ref b108), (.ref b108)])) _
    refine XS.iconst X108.here hx rfl (hb hby d_jdk_33_method_10_code_27) ?_
    show Steps pg.tables ev below (T108.setTop (mkF mi 28 #[.val (.int p), .val (.int (Int32.ofNat (Jvm.Free.SBG.digits p.toNatClampNeg))), .val (.ref b105)] [(.int (0 : Int32)), (.ref b105), (.ref b108), (.ref b108)])) _
    refine st113.trans ?_
    show Steps pg.tables ev below (T113.setTop (mkF mi 31 #[.val (.int p), .val (.int (Int32.ofNat (Jvm.Free.SBG.digits p.toNatClampNeg))), .val (.ref b105)] [(.ref b108)])) _
    jvm_step X113.here [X113.here.top, hx, (hb hby d_jdk_33_method_10_code_31), X113.method', Bd.returns, Value.isRef, FieldType.isReference]
    first | (intro acts; rw [hr _ acts rfl rfl rfl]) | rw [hr _ _ rfl rfl rfl]
    exact Steps.refl _
  · show Q_its Z p zc sg d1 D1 d2 D2 hE n0 _ T113.heap _
    exact ⟨b108, b105, rfl, N113, (((((Keep.refl hE []).ext E105).trans Kq106 (allS (Or.inr (Nat.le_of_eq q105.symm)) all0)).ext E108).trans Kq113 (allS (Or.inr (Nat.le_trans (Nat.le_trans E105.1 Kq106.1) (Nat.le_of_eq q108.symm))) all0)), (Nat.le_trans (Nat.le_trans E105.1 Kq106.1) (Nat.le_of_eq q108.symm)), (Nat.le_of_eq q105.symm), s114⟩
theorem d_prog_19_method_10_code_0 : decode prog_19_method_10_code 0 = .ok (.aload_n 0, 1) := by decide +kernel
theorem d_prog_19_method_10_code_1 : decode prog_19_method_10_code 1 = .ok (.getfield 7, 3) := by decide +kernel
theorem d_prog_19_method_10_code_4 : decode prog_19_method_10_code 4 = .ok (.invokevirtual 143, 3) := by decide +kernel
theorem d_prog_19_method_10_code_7 : decode prog_19_method_10_code 7 = .ok (.tableswitch 37 0 5 #[47, 52, 57, 67, 91, 100], 37) := by decide +kernel
theorem d_prog_19_method_10_code_64 : decode prog_19_method_10_code 64 = .ok (.aload_n 0, 1) := by decide +kernel
theorem d_prog_19_method_10_code_65 : decode prog_19_method_10_code 65 = .ok (.getfield 13, 3) := by decide +kernel
theorem d_prog_19_method_10_code_68 : decode prog_19_method_10_code 68 = .ok (.invokestatic 155, 3) := by decide +kernel
theorem d_prog_19_method_10_code_71 : decode prog_19_method_10_code 71 = .ok (.goto 42, 3) := by decide +kernel
theorem d_prog_19_method_10_code_113 : decode prog_19_method_10_code 113 = .ok (.astore_n 1, 1) := by decide +kernel
theorem d_prog_19_method_10_code_114 : decode prog_19_method_10_code 114 = .ok (.aload_n 1, 1) := by decide +kernel
theorem d_prog_19_method_10_code_115 : decode prog_19_method_10_code 115 = .ok (.areturn, 1) := by decide +kernel
theorem pd_10 : parseMethodDescriptor "()I" = some ⟨[], some .int⟩ := by decide +kernel
theorem pd_11 : parseMethodDescriptor "(I)Ljava/lang/String;" = some ⟨[.int], some (.object "java/lang/String")⟩ := by decide +kernel
theorem ef_tos (mi : MethodId) (a : Addr) : entryFrame mi #[(.ref a)] 2 = mkF mi 0 #[.val (.ref a), .unset] [] := by first | (simp [entryFrame, mkF, argsToLocals, Value.category]; done) | rfl
def Q_tos (Z : State) (a : Addr) (p : Int32) (k : Addr) (zc : Int32) (sg : Addr) (d1 : Addr) (D1 : Cell) (d2 : Addr) (D2 : Cell) (hE : Heap) (n0 : Nat) (vv : Option Value) (hh : Heap) (LL : List Loc) : Prop := ∃ x : Addr, ∃ t : Addr, (vv = some (.ref x)) ∧ (Fr n0 LL) ∧ (Keep hE hh []) ∧ (hE.size ≤ x) ∧ (hE.size ≤ t) ∧ (LStr Z hh x t (dch p.toNatClampNeg))
set_option maxRecDepth 65536 in
set_option maxHeartbeats 40000000 in
theorem rm_tos (la : Launch) (Z : State) (a0 : Array Value) (hw : ∀ d ∈ tables_1, d.before a0 Z = true) (ws : List Jvm.Cond) (a : Addr) (p : Int32) (k : Addr) (zc : Int32) (sg : Addr) (d1 : Addr) (D1 : Cell) (d2 : Addr) (D2 : Cell) (hE : Heap) (n0 : Nat) (O : Old Z n0 hE) (P0_ : Exa Z hE a "com/example/endless_runs/endlessruns/automaton/Label") (P1_ : Fld Z hE a "com/example/endless_runs/endlessruns/automaton/Label" "kind" "Lcom/example/endless_runs/endlessruns/automaton/Label$Kind;" (.ref k)) (P2_ : Fld Z hE a "com/example/endless_runs/endlessruns/automaton/Label" "proposition" "I" (.int p)) (D0_ : Exa Z Z.heap k "com/example/endless_runs/endlessruns/automaton/Label$Kind") (D1_ : Fld Z Z.heap k "java/lang/Enum" "ordinal" "I" (.int (2 : Int32))) (D2_ : Sta Z Z.heap "java/lang/String" "COMPACT_STRINGS" "Z" (.int zc)) (hp : ¬ (p < (0 : Int32))) (hzc : ¬ (zc = (0 : Int32))) (hT1 : Jvm.Free.SBG.Tbl Z "DigitOnes" sg d1 D1) (hT2 : Jvm.Free.SBG.Tbl Z "DigitTens" sg d2 D2) (hO1 : Jvm.Free.SBG.Ones D1) (hO2 : Jvm.Free.SBG.Tens D2) :
    MetFree la mn16 (head1 (Jvm.Cond.code mn16 prog_19_method_10_code 2 (some (.object "java/lang/String")) :: ws) ({ frames := 3, cells := 2, slots := 14, locals := 92 } : Room)) (fun aa UU => aa = #[(.ref a)] ∧ Z.Warmed39 UU.vm ∧ UU.heap = hE) (fun _ _ _ _ _ => True) (fun _ UU oo UV => ∃ vv LL, oo = .returned vv ∧ Q_tos Z a p k zc sg d1 D1 d2 D2 hE n0 vv UV.heap LL ∧ FrameEnd UU oo UV LL ({ frames := 3, cells := 2, slots := 14, locals := 92 } : Room).cells ({ frames := 3, cells := 2, slots := 14, locals := 92 } : Room).slots) := by
  refine MetFree.of_bodySF (plainFor_of_name pn_com_example_endless_runs_endlessruns_automaton_Label) hisR ?_
  intro pg ev sb mi gs below me cd s₁ Bd hml0 hPt hKt
  obtain ⟨rfl, hZ, hh⟩ := hPt
  have hx := Bd.exec
  have hby := Bd.bytes
  have hml : cd.maxLocals = 2 := hml0
  have hown : sb.vm.findClass "com/example/endless_runs/endlessruns/automaton/Label" = some mi.cls := findClass_of_methodNamed Bd.named
  have hnm := (name_of_methodNamed Bd.named Bd.method).1
  have X0 : Stand pg la ev ({ frames := 3, cells := 2, slots := 14, locals := 92 } : Room) sb mi #[(.ref a)] below me cd s₁ [] 0 0 := Stand.of_body Bd
  have eE : s₁.heap = hE := by rw [← hh, Bd.state]; rfl
  have N0 := Fr.nil n0
  have pre0 : ∀ tt, Steps pg.tables ev below (s₁.setTop (mkF mi 0 #[.val (.ref a), .unset] [])) tt → Steps pg.tables ev below (s₁.setTop (entryFrame mi #[(.ref a)] 2)) tt := fun tt kk => castTop (ef_tos mi a) kk
  obtain ⟨T101, X101, e101, st101⟩ := getF X0 hx hZ hown (host := "") (Or.inl (wd22 hw)) Via.refl eE P1_ (g := (mkF mi 1 #[.val (.ref a), .unset] [(.ref a)])) rfl rfl (hb hby d_prog_19_method_10_code_1)
  obtain ⟨cq102, kq102, q102a, q102b, q102c⟩ := isOf hZ e101 (D0_.ext O.2)
  obtain ⟨v102, _, ⟨T102, L102, k102, n102⟩, -, X102, ⟨Lc102, hQ102, l102, y102, z102⟩, st102⟩ := X101.virtualBackUp hx (owner := "java/lang/Enum") (x := mn15) (y := mn3) hown (mvT hZ (wd33 hw)) (mvT hZ (wd34 hw)) (mvT hZ (wd35 hw)) (by decide) (mvT hZ (wd37 hw)) (mvT hZ (wd36 hw)) (backOf (W := 0) (rm_ordi la Z a0 hw [] k (2 : Int32) hE n0 O (D1_.ext O.2)) hZ (wd39 hw) (wd38 hw) (by decide) (by decide)) q102a q102c (g := (mkF mi 4 #[.val (.ref a), .unset] [(.ref k)])) rfl (by rw [hml]; rfl) (Steps.refl _) (argsL := []) (rest := []) (lenOf pd_10 rfl) rfl (by show 2 * 0 + _ ≤ _; exact Nat.le_of_eq rfl) (hb hby d_prog_19_method_10_code_4) (fun _ _ => ⟨rfl, e101, (by decide : 0 + 0 ≤ _), (by decide : 0 + 0 ≤ _)⟩)
  dsimp only [Pt.U, Pt.locs, Pt.cells, Pt.slots] at X102 l102 y102 z102 st102 hQ102
  subst l102 y102 z102
  obtain ⟨rfl, Nq102, ek102⟩ := hQ102
  have N102 := Fr.app N0 Nq102
  obtain ⟨T103, X103, e103, st103⟩ := getF X102 hx hZ hown (host := "") (Or.inl (wd24 hw)) Via.refl ek102 P2_ (g := (mkF mi 65 #[.val (.ref a), .unset] [(.ref a)])) rfl rfl (hb hby d_prog_19_method_10_code_65)
  obtain ⟨v104, _, ⟨T104, L104, k104, n104⟩, -, X104, ⟨Lc104, hQ104, l104, y104, z104⟩, st104⟩ := Jvm.LawKit.callS X103 hx (y := mn14) hown (mvT hZ (wd42 hw)) (mvT hZ (wd43 hw)) (mvT hZ (wd44 hw)) (mvT hZ (wd45 hw)) (by decide) (backOf (W := 0) (rm_its la Z a0 hw [] p zc sg d1 D1 d2 D2 hE n0 O D2_ (hp : ¬ (p < (0 : Int32))) (hzc : ¬ (zc = (0 : Int32))) (hT1 : Jvm.Free.SBG.Tbl Z "DigitOnes" sg d1 D1) (hT2 : Jvm.Free.SBG.Tbl Z "DigitTens" sg d2 D2) (hO1 : Jvm.Free.SBG.Ones D1) (hO2 : Jvm.Free.SBG.Tens D2)) hZ (wd45 hw) (wd44 hw) (by decide) (by decide)) (g := (mkF mi 68 #[.val (.ref a), .unset] [(.int p)])) rfl (by rw [hml]; rfl) (argsL := [(.int p)]) (rest := []) (lenOf pd_11 rfl) rfl (by show 2 * 0 + _ ≤ _; exact Nat.le_of_eq rfl) (hb hby d_prog_19_method_10_code_68) (fun _ _ => ⟨rfl, e103, (by decide : 0 + 2 ≤ _), (by decide : 0 + 14 ≤ _)⟩)
  dsimp only [Pt.U, Pt.locs, Pt.cells, Pt.slots] at X104 l104 y104 z104 st104 hQ104
  subst l104 y104 z104
  obtain ⟨x_104, t_104, rfl, Nq104, Kq104, fr_x_104, fr_t_104, r104_0⟩ := hQ104
  have N104 := Fr.app N102 Nq104
  obtain ⟨fs, hr, hrun, hended, hW, hsame⟩ := X104.leave (v := some (.ref x_104)) (fun hq => by rw [Bd.returns] at hq; cases hq)
  refine ⟨_, _, pre0 _ ?_, hrun, hended, _, _, rfl, ?_, ⟨_, rfl⟩, hW, hsame.mono (by decide) (by decide)⟩
  · show Steps pg.tables ev below (s₁.setTop (mkF mi 0 #[.val (.ref a), .unset] [])) _
    refine XS.aloadN X0.here hx rfl (hb hby d_prog_19_method_10_code_0) rfl rfl ?_
    show Steps pg.tables ev below (s₁.setTop (mkF mi 1 #[.val (.ref a), .unset] [(.ref a)])) _
    refine st101 _ ?_
    show Steps pg.tables ev below (T101.setTop (mkF mi 4 #[.val (.ref a), .unset] [(.ref k)])) _
    refine st102.trans ?_
    show Steps pg.tables ev below (T102.setTop (mkF mi 7 #[.val (.ref a), .unset] [(.int (2 : Int32))])) _
    refine XS.tswIn X102.here hx rfl (pc0 := 7) (pc' := 64) rfl (hb hby d_prog_19_method_10_code_7) rfl (by decide) (o := 57) (by decide) (by decide) (by decide) ?_
    show Steps pg.tables ev below (T102.setTop (mkF mi 64 #[.val (.ref a), .unset] [])) _
    refine XS.aloadN X102.here hx rfl (hb hby d_prog_19_method_10_code_64) rfl rfl ?_
    show Steps pg.tables ev below (T102.setTop (mkF mi 65 #[.val (.ref a), .unset] [(.ref a)])) _
    refine st103 _ ?_
    show Steps pg.tables ev below (T103.setTop (mkF mi 68 #[.val (.ref a), .unset] [(.int p)])) _
    refine st104 _ ?_
    show Steps pg.tables ev below (T104.setTop (mkF mi 71 #[.val (.ref a), .unset] [(.ref x_104)])) _
    refine XS.goto X104.here hx rfl (pc0 := 71) (pc' := 113) rfl (hb hby d_prog_19_method_10_code_71) (by decide) (by decide) ?_
    show Steps pg.tables ev below (T104.setTop (mkF mi 113 #[.val (.ref a), .unset] [(.ref x_104)])) _
    refine XS.astoreN X104.here hx rfl (hb hby d_prog_19_method_10_code_113) rfl rfl (l' := #[.val (.ref a), .val (.ref x_104)]) rfl ?_
    show Steps pg.tables ev below (T104.setTop (mkF mi 114 #[.val (.ref a), .val (.ref x_104)] [])) _
    refine XS.aloadN X104.here hx rfl (hb hby d_prog_19_method_10_code_114) rfl rfl ?_
    show Steps pg.tables ev below (T104.setTop (mkF mi 115 #[.val (.ref a), .val (.ref x_104)] [(.ref x_104)])) _
    jvm_step X104.here [X104.here.top, hx, (hb hby d_prog_19_method_10_code_115), X104.method', Bd.returns, Value.isRef, FieldType.isReference]
    first | (intro acts; rw [hr _ acts rfl rfl rfl]) | rw [hr _ _ rfl rfl rfl]
    exact Steps.refl _
  · show Q_tos Z a p k zc sg d1 D1 d2 D2 hE n0 _ T104.heap _
    exact ⟨x_104, t_104, rfl, N104, ((Keep.refl hE []).trans Kq104 all0), fr_x_104, fr_t_104, r104_0⟩
def digF (p : Int32) : Int32 := if p < (10 : Int32) then 1 else if p < (100 : Int32) then 2 else if p < (1000 : Int32) then 3 else if p < (10000 : Int32) then 4 else if p < (100000 : Int32) then 5 else if p < (1000000 : Int32) then 6 else if p < (10000000 : Int32) then 7 else if p < (100000000 : Int32) then 8 else if p < (1000000000 : Int32) then 9 else 10
def powF (k : Int32) : Int32 := if (0 : Int32) < k then (if k = (1 : Int32) then 10 else if k = (2 : Int32) then 100 else if k = (3 : Int32) then 1000 else if k = (4 : Int32) then 10000 else if k = (5 : Int32) then 100000 else if k = (6 : Int32) then 1000000 else if k = (7 : Int32) then 10000000 else if k = (8 : Int32) then 100000000 else 1000000000) else 1
theorem d_method_3_code_0 : decode method_3_code 0 = .ok (.iload_n 0, 1) := by decide +kernel
theorem d_method_3_code_1 : decode method_3_code 1 = .ok (.bipush 10, 2) := by decide +kernel
theorem d_method_3_code_3 : decode method_3_code 3 = .ok (.if_icmp .ge 5, 3) := by decide +kernel
theorem d_method_3_code_6 : decode method_3_code 6 = .ok (.iconst 1, 1) := by decide +kernel
theorem d_method_3_code_7 : decode method_3_code 7 = .ok (.ireturn, 1) := by decide +kernel
theorem d_method_3_code_8 : decode method_3_code 8 = .ok (.iload_n 0, 1) := by decide +kernel
theorem d_method_3_code_9 : decode method_3_code 9 = .ok (.bipush 100, 2) := by decide +kernel
theorem d_method_3_code_11 : decode method_3_code 11 = .ok (.if_icmp .ge 5, 3) := by decide +kernel
theorem d_method_3_code_14 : decode method_3_code 14 = .ok (.iconst 2, 1) := by decide +kernel
theorem d_method_3_code_15 : decode method_3_code 15 = .ok (.ireturn, 1) := by decide +kernel
theorem d_method_3_code_16 : decode method_3_code 16 = .ok (.iload_n 0, 1) := by decide +kernel
theorem d_method_3_code_17 : decode method_3_code 17 = .ok (.sipush 1000, 3) := by decide +kernel
theorem d_method_3_code_20 : decode method_3_code 20 = .ok (.if_icmp .ge 5, 3) := by decide +kernel
theorem d_method_3_code_23 : decode method_3_code 23 = .ok (.iconst 3, 1) := by decide +kernel
theorem d_method_3_code_24 : decode method_3_code 24 = .ok (.ireturn, 1) := by decide +kernel
theorem d_method_3_code_25 : decode method_3_code 25 = .ok (.iload_n 0, 1) := by decide +kernel
theorem d_method_3_code_26 : decode method_3_code 26 = .ok (.sipush 10000, 3) := by decide +kernel
theorem d_method_3_code_29 : decode method_3_code 29 = .ok (.if_icmp .ge 5, 3) := by decide +kernel
theorem d_method_3_code_32 : decode method_3_code 32 = .ok (.iconst 4, 1) := by decide +kernel
theorem d_method_3_code_33 : decode method_3_code 33 = .ok (.ireturn, 1) := by decide +kernel
theorem d_method_3_code_34 : decode method_3_code 34 = .ok (.iload_n 0, 1) := by decide +kernel
theorem d_method_3_code_35 : decode method_3_code 35 = .ok (.ldc 47, 2) := by decide +kernel
theorem d_method_3_code_37 : decode method_3_code 37 = .ok (.if_icmp .ge 5, 3) := by decide +kernel
theorem d_method_3_code_40 : decode method_3_code 40 = .ok (.iconst 5, 1) := by decide +kernel
theorem d_method_3_code_41 : decode method_3_code 41 = .ok (.ireturn, 1) := by decide +kernel
theorem d_method_3_code_42 : decode method_3_code 42 = .ok (.iload_n 0, 1) := by decide +kernel
theorem d_method_3_code_43 : decode method_3_code 43 = .ok (.ldc 48, 2) := by decide +kernel
theorem d_method_3_code_45 : decode method_3_code 45 = .ok (.if_icmp .ge 6, 3) := by decide +kernel
theorem d_method_3_code_48 : decode method_3_code 48 = .ok (.bipush 6, 2) := by decide +kernel
theorem d_method_3_code_50 : decode method_3_code 50 = .ok (.ireturn, 1) := by decide +kernel
theorem d_method_3_code_51 : decode method_3_code 51 = .ok (.iload_n 0, 1) := by decide +kernel
theorem d_method_3_code_52 : decode method_3_code 52 = .ok (.ldc 49, 2) := by decide +kernel
theorem d_method_3_code_54 : decode method_3_code 54 = .ok (.if_icmp .ge 6, 3) := by decide +kernel
theorem d_method_3_code_57 : decode method_3_code 57 = .ok (.bipush 7, 2) := by decide +kernel
theorem d_method_3_code_59 : decode method_3_code 59 = .ok (.ireturn, 1) := by decide +kernel
theorem d_method_3_code_60 : decode method_3_code 60 = .ok (.iload_n 0, 1) := by decide +kernel
theorem d_method_3_code_61 : decode method_3_code 61 = .ok (.ldc 50, 2) := by decide +kernel
theorem d_method_3_code_63 : decode method_3_code 63 = .ok (.if_icmp .ge 6, 3) := by decide +kernel
theorem d_method_3_code_66 : decode method_3_code 66 = .ok (.bipush 8, 2) := by decide +kernel
theorem d_method_3_code_68 : decode method_3_code 68 = .ok (.ireturn, 1) := by decide +kernel
theorem d_method_3_code_69 : decode method_3_code 69 = .ok (.iload_n 0, 1) := by decide +kernel
theorem d_method_3_code_70 : decode method_3_code 70 = .ok (.ldc 51, 2) := by decide +kernel
theorem d_method_3_code_72 : decode method_3_code 72 = .ok (.if_icmp .ge 6, 3) := by decide +kernel
theorem d_method_3_code_75 : decode method_3_code 75 = .ok (.bipush 9, 2) := by decide +kernel
theorem d_method_3_code_77 : decode method_3_code 77 = .ok (.ireturn, 1) := by decide +kernel
theorem d_method_3_code_78 : decode method_3_code 78 = .ok (.bipush 10, 2) := by decide +kernel
theorem d_method_3_code_80 : decode method_3_code 80 = .ok (.ireturn, 1) := by decide +kernel
theorem pn_com_example_endless_runs_endlessruns_automaton_LabelPropositionPinLaw : plainName "com/example/endless_runs/endlessruns/automaton/LabelPropositionPinLaw" = true := by first | (simp [plainName, overriddenIn]; done) | decide +kernel
theorem ef_dig (mi : MethodId) (p : Int32) : entryFrame mi #[(.int p)] 1 = mkF mi 0 #[.val (.int p)] [] := by first | (simp [entryFrame, mkF, argsToLocals, Value.category]; done) | rfl
def Q_dig (Z : State) (p : Int32) (hE : Heap) (n0 : Nat) (vv : Option Value) (hh : Heap) (LL : List Loc) : Prop := (vv = some (.int (digF p))) ∧ (Fr n0 LL) ∧ (hh = hE)
set_option maxRecDepth 65536 in
set_option maxHeartbeats 40000000 in
theorem rm_dig (la : Launch) (Z : State) (a0 : Array Value) (hw : ∀ d ∈ tables_1, d.before a0 Z = true) (ws : List Jvm.Cond) (p : Int32) (hE : Heap) (n0 : Nat) (O : Old Z n0 hE) :
    MetFree la mn17 (head1 (Jvm.Cond.code mn17 method_3_code 1 (some .int) :: ws) ({ frames := 0, cells := 0, slots := 0, locals := 0 } : Room)) (fun aa UU => aa = #[(.int p)] ∧ Z.Warmed39 UU.vm ∧ UU.heap = hE) (fun _ _ _ _ _ => True) (fun _ UU oo UV => ∃ vv LL, oo = .returned vv ∧ Q_dig Z p hE n0 vv UV.heap LL ∧ FrameEnd UU oo UV LL ({ frames := 0, cells := 0, slots := 0, locals := 0 } : Room).cells ({ frames := 0, cells := 0, slots := 0, locals := 0 } : Room).slots) := by
  refine MetFree.of_bodySF (plainFor_of_name pn_com_example_endless_runs_endlessruns_automaton_LabelPropositionPinLaw) hisR ?_
  intro pg ev sb mi gs below me cd s₁ Bd hml0 hPt hKt
  obtain ⟨rfl, hZ, hh⟩ := hPt
  have hx := Bd.exec
  have hby := Bd.bytes
  have hml : cd.maxLocals = 1 := hml0
  have hown : sb.vm.findClass "com/example/endless_runs/endlessruns/automaton/LabelPropositionPinLaw" = some mi.cls := findClass_of_methodNamed Bd.named
  have hnm := (name_of_methodNamed Bd.named Bd.method).1
  have X0 : Stand pg la ev ({ frames := 0, cells := 0, slots := 0, locals := 0 } : Room) sb mi #[(.int p)] below me cd s₁ [] 0 0 := Stand.of_body Bd
  have eE : s₁.heap = hE := by rw [← hh, Bd.state]; rfl
  have N0 := Fr.nil n0
  have pre0 : ∀ tt, Steps pg.tables ev below (s₁.setTop (mkF mi 0 #[.val (.int p)] [])) tt → Steps pg.tables ev below (s₁.setTop (entryFrame mi #[(.int p)] 1)) tt := fun tt kk => castTop (ef_dig mi p) kk
  have pre102 : ∀ tt, Steps pg.tables ev below (s₁.setTop (mkF mi 3 #[.val (.int p)] [(.int (10 : Int32)), (.int p)])) tt → Steps pg.tables ev below (s₁.setTop (entryFrame mi #[(.int p)] 1)) tt := fun tt kk => pre0 _ (by
    show Steps pg.tables ev below (s₁.setTop (mkF mi 0 #[.val (.int p)] [])) _
    refine XS.iloadN X0.here hx rfl (hb hby d_method_3_code_0) rfl ?_
    show Steps pg.tables ev below (s₁.setTop (mkF mi 1 #[.val (.int p)] [(.int p)])) _
    refine XS.bipush X0.here hx rfl (hb hby d_method_3_code_1) ?_
    exact kk)
  by_cases hc101 : p < (10 : Int32)
  · obtain ⟨fs, hr, hrun, hended, hW, hsame⟩ := X0.leave (v := some (.int (1 : Int32))) (fun hq => by rw [Bd.returns] at hq; cases hq)
    refine ⟨_, _, pre102 _ ?_, hrun, hended, _, _, rfl, ?_, ⟨_, rfl⟩, hW, hsame.mono (by decide) (by decide)⟩
    · show Steps pg.tables ev below (s₁.setTop (mkF mi 3 #[.val (.int p)] [(.int (10 : Int32)), (.int p)])) _
      refine XS.icmpNo X0.here hx rfl (hb hby d_method_3_code_3) rfl (tlt hc101).2.1 ?_
      show Steps pg.tables ev below (s₁.setTop (mkF mi 6 #[.val (.int p)] [])) _
      refine XS.iconst X0.here hx rfl (hb hby d_method_3_code_6) ?_
      show Steps pg.tables ev below (s₁.setTop (mkF mi 7 #[.val (.int p)] [(.int (1 : Int32))])) _
      exact retI X0 hx Bd.returns (hb hby d_method_3_code_7) hr
    · show Q_dig Z p hE n0 _ s₁.heap _
      rw [eE]
      exact ⟨(by show some (Value.int (1 : Int32)) = some (Value.int (digF p)); unfold digF; rw [if_pos hc101]), N0, rfl⟩
  · have pre104 : ∀ tt, Steps pg.tables ev below (s₁.setTop (mkF mi 11 #[.val (.int p)] [(.int (100 : Int32)), (.int p)])) tt → Steps pg.tables ev below (s₁.setTop (entryFrame mi #[(.int p)] 1)) tt := fun tt kk => pre102 _ (by
      show Steps pg.tables ev below (s₁.setTop (mkF mi 3 #[.val (.int p)] [(.int (10 : Int32)), (.int p)])) _
      refine XS.icmpYes X0.here hx rfl (pc0 := 3) (pc' := 8) rfl (hb hby d_method_3_code_3) rfl (flt hc101).2.1 (by decide) (by decide) ?_
      show Steps pg.tables ev below (s₁.setTop (mkF mi 8 #[.val (.int p)] [])) _
      refine XS.iloadN X0.here hx rfl (hb hby d_method_3_code_8) rfl ?_
      show Steps pg.tables ev below (s₁.setTop (mkF mi 9 #[.val (.int p)] [(.int p)])) _
      refine XS.bipush X0.here hx rfl (hb hby d_method_3_code_9) ?_
      exact kk)
    by_cases hc103 : p < (100 : Int32)
    · obtain ⟨fs, hr, hrun, hended, hW, hsame⟩ := X0.leave (v := some (.int (2 : Int32))) (fun hq => by rw [Bd.returns] at hq; cases hq)
      refine ⟨_, _, pre104 _ ?_, hrun, hended, _, _, rfl, ?_, ⟨_, rfl⟩, hW, hsame.mono (by decide) (by decide)⟩
      · show Steps pg.tables ev below (s₁.setTop (mkF mi 11 #[.val (.int p)] [(.int (100 : Int32)), (.int p)])) _
        refine XS.icmpNo X0.here hx rfl (hb hby d_method_3_code_11) rfl (tlt hc103).2.1 ?_
        show Steps pg.tables ev below (s₁.setTop (mkF mi 14 #[.val (.int p)] [])) _
        refine XS.iconst X0.here hx rfl (hb hby d_method_3_code_14) ?_
        show Steps pg.tables ev below (s₁.setTop (mkF mi 15 #[.val (.int p)] [(.int (2 : Int32))])) _
        exact retI X0 hx Bd.returns (hb hby d_method_3_code_15) hr
      · show Q_dig Z p hE n0 _ s₁.heap _
        rw [eE]
        exact ⟨(by show some (Value.int (2 : Int32)) = some (Value.int (digF p)); unfold digF; rw [if_neg hc101, if_pos hc103]), N0, rfl⟩
    · have pre106 : ∀ tt, Steps pg.tables ev below (s₁.setTop (mkF mi 20 #[.val (.int p)] [(.int (1000 : Int32)), (.int p)])) tt → Steps pg.tables ev below (s₁.setTop (entryFrame mi #[(.int p)] 1)) tt := fun tt kk => pre104 _ (by
        show Steps pg.tables ev below (s₁.setTop (mkF mi 11 #[.val (.int p)] [(.int (100 : Int32)), (.int p)])) _
        refine XS.icmpYes X0.here hx rfl (pc0 := 11) (pc' := 16) rfl (hb hby d_method_3_code_11) rfl (flt hc103).2.1 (by decide) (by decide) ?_
        show Steps pg.tables ev below (s₁.setTop (mkF mi 16 #[.val (.int p)] [])) _
        refine XS.iloadN X0.here hx rfl (hb hby d_method_3_code_16) rfl ?_
        show Steps pg.tables ev below (s₁.setTop (mkF mi 17 #[.val (.int p)] [(.int p)])) _
        refine XS.sipush X0.here hx rfl (hb hby d_method_3_code_17) ?_
        exact kk)
      by_cases hc105 : p < (1000 : Int32)
      · obtain ⟨fs, hr, hrun, hended, hW, hsame⟩ := X0.leave (v := some (.int (3 : Int32))) (fun hq => by rw [Bd.returns] at hq; cases hq)
        refine ⟨_, _, pre106 _ ?_, hrun, hended, _, _, rfl, ?_, ⟨_, rfl⟩, hW, hsame.mono (by decide) (by decide)⟩
        · show Steps pg.tables ev below (s₁.setTop (mkF mi 20 #[.val (.int p)] [(.int (1000 : Int32)), (.int p)])) _
          refine XS.icmpNo X0.here hx rfl (hb hby d_method_3_code_20) rfl (tlt hc105).2.1 ?_
          show Steps pg.tables ev below (s₁.setTop (mkF mi 23 #[.val (.int p)] [])) _
          refine XS.iconst X0.here hx rfl (hb hby d_method_3_code_23) ?_
          show Steps pg.tables ev below (s₁.setTop (mkF mi 24 #[.val (.int p)] [(.int (3 : Int32))])) _
          exact retI X0 hx Bd.returns (hb hby d_method_3_code_24) hr
        · show Q_dig Z p hE n0 _ s₁.heap _
          rw [eE]
          exact ⟨(by show some (Value.int (3 : Int32)) = some (Value.int (digF p)); unfold digF; rw [if_neg hc101, if_neg hc103, if_pos hc105]), N0, rfl⟩
      · have pre108 : ∀ tt, Steps pg.tables ev below (s₁.setTop (mkF mi 29 #[.val (.int p)] [(.int (10000 : Int32)), (.int p)])) tt → Steps pg.tables ev below (s₁.setTop (entryFrame mi #[(.int p)] 1)) tt := fun tt kk => pre106 _ (by
          show Steps pg.tables ev below (s₁.setTop (mkF mi 20 #[.val (.int p)] [(.int (1000 : Int32)), (.int p)])) _
          refine XS.icmpYes X0.here hx rfl (pc0 := 20) (pc' := 25) rfl (hb hby d_method_3_code_20) rfl (flt hc105).2.1 (by decide) (by decide) ?_
          show Steps pg.tables ev below (s₁.setTop (mkF mi 25 #[.val (.int p)] [])) _
          refine XS.iloadN X0.here hx rfl (hb hby d_method_3_code_25) rfl ?_
          show Steps pg.tables ev below (s₁.setTop (mkF mi 26 #[.val (.int p)] [(.int p)])) _
          refine XS.sipush X0.here hx rfl (hb hby d_method_3_code_26) ?_
          exact kk)
        by_cases hc107 : p < (10000 : Int32)
        · obtain ⟨fs, hr, hrun, hended, hW, hsame⟩ := X0.leave (v := some (.int (4 : Int32))) (fun hq => by rw [Bd.returns] at hq; cases hq)
          refine ⟨_, _, pre108 _ ?_, hrun, hended, _, _, rfl, ?_, ⟨_, rfl⟩, hW, hsame.mono (by decide) (by decide)⟩
          · show Steps pg.tables ev below (s₁.setTop (mkF mi 29 #[.val (.int p)] [(.int (10000 : Int32)), (.int p)])) _
            refine XS.icmpNo X0.here hx rfl (hb hby d_method_3_code_29) rfl (tlt hc107).2.1 ?_
            show Steps pg.tables ev below (s₁.setTop (mkF mi 32 #[.val (.int p)] [])) _
            refine XS.iconst X0.here hx rfl (hb hby d_method_3_code_32) ?_
            show Steps pg.tables ev below (s₁.setTop (mkF mi 33 #[.val (.int p)] [(.int (4 : Int32))])) _
            exact retI X0 hx Bd.returns (hb hby d_method_3_code_33) hr
          · show Q_dig Z p hE n0 _ s₁.heap _
            rw [eE]
            exact ⟨(by show some (Value.int (4 : Int32)) = some (Value.int (digF p)); unfold digF; rw [if_neg hc101, if_neg hc103, if_neg hc105, if_pos hc107]), N0, rfl⟩
        · have pre110 : ∀ tt, Steps pg.tables ev below (s₁.setTop (mkF mi 37 #[.val (.int p)] [(.int (100000 : Int32)), (.int p)])) tt → Steps pg.tables ev below (s₁.setTop (entryFrame mi #[(.int p)] 1)) tt := fun tt kk => pre108 _ (by
            show Steps pg.tables ev below (s₁.setTop (mkF mi 29 #[.val (.int p)] [(.int (10000 : Int32)), (.int p)])) _
            refine XS.icmpYes X0.here hx rfl (pc0 := 29) (pc' := 34) rfl (hb hby d_method_3_code_29) rfl (flt hc107).2.1 (by decide) (by decide) ?_
            show Steps pg.tables ev below (s₁.setTop (mkF mi 34 #[.val (.int p)] [])) _
            refine XS.iloadN X0.here hx rfl (hb hby d_method_3_code_34) rfl ?_
            show Steps pg.tables ev below (s₁.setTop (mkF mi 35 #[.val (.int p)] [(.int p)])) _
            refine X0.ldcInt hx hown (mvT hZ (wd161 hw)) (g := (mkF mi 35 #[.val (.int p)] [(.int p)])) rfl (hb hby d_method_3_code_35) _ ?_
            exact kk)
          by_cases hc109 : p < (100000 : Int32)
          · obtain ⟨fs, hr, hrun, hended, hW, hsame⟩ := X0.leave (v := some (.int (5 : Int32))) (fun hq => by rw [Bd.returns] at hq; cases hq)
            refine ⟨_, _, pre110 _ ?_, hrun, hended, _, _, rfl, ?_, ⟨_, rfl⟩, hW, hsame.mono (by decide) (by decide)⟩
            · show Steps pg.tables ev below (s₁.setTop (mkF mi 37 #[.val (.int p)] [(.int (100000 : Int32)), (.int p)])) _
              refine XS.icmpNo X0.here hx rfl (hb hby d_method_3_code_37) rfl (tlt hc109).2.1 ?_
              show Steps pg.tables ev below (s₁.setTop (mkF mi 40 #[.val (.int p)] [])) _
              refine XS.iconst X0.here hx rfl (hb hby d_method_3_code_40) ?_
              show Steps pg.tables ev below (s₁.setTop (mkF mi 41 #[.val (.int p)] [(.int (5 : Int32))])) _
              exact retI X0 hx Bd.returns (hb hby d_method_3_code_41) hr
            · show Q_dig Z p hE n0 _ s₁.heap _
              rw [eE]
              exact ⟨(by show some (Value.int (5 : Int32)) = some (Value.int (digF p)); unfold digF; rw [if_neg hc101, if_neg hc103, if_neg hc105, if_neg hc107, if_pos hc109]), N0, rfl⟩
          · have pre112 : ∀ tt, Steps pg.tables ev below (s₁.setTop (mkF mi 45 #[.val (.int p)] [(.int (1000000 : Int32)), (.int p)])) tt → Steps pg.tables ev below (s₁.setTop (entryFrame mi #[(.int p)] 1)) tt := fun tt kk => pre110 _ (by
              show Steps pg.tables ev below (s₁.setTop (mkF mi 37 #[.val (.int p)] [(.int (100000 : Int32)), (.int p)])) _
              refine XS.icmpYes X0.here hx rfl (pc0 := 37) (pc' := 42) rfl (hb hby d_method_3_code_37) rfl (flt hc109).2.1 (by decide) (by decide) ?_
              show Steps pg.tables ev below (s₁.setTop (mkF mi 42 #[.val (.int p)] [])) _
              refine XS.iloadN X0.here hx rfl (hb hby d_method_3_code_42) rfl ?_
              show Steps pg.tables ev below (s₁.setTop (mkF mi 43 #[.val (.int p)] [(.int p)])) _
              refine X0.ldcInt hx hown (mvT hZ (wd162 hw)) (g := (mkF mi 43 #[.val (.int p)] [(.int p)])) rfl (hb hby d_method_3_code_43) _ ?_
              exact kk)
            by_cases hc111 : p < (1000000 : Int32)
            · obtain ⟨fs, hr, hrun, hended, hW, hsame⟩ := X0.leave (v := some (.int (6 : Int32))) (fun hq => by rw [Bd.returns] at hq; cases hq)
              refine ⟨_, _, pre112 _ ?_, hrun, hended, _, _, rfl, ?_, ⟨_, rfl⟩, hW, hsame.mono (by decide) (by decide)⟩
              · show Steps pg.tables ev below (s₁.setTop (mkF mi 45 #[.val (.int p)] [(.int (1000000 : Int32)), (.int p)])) _
                refine XS.icmpNo X0.here hx rfl (hb hby d_method_3_code_45) rfl (tlt hc111).2.1 ?_
                show Steps pg.tables ev below (s₁.setTop (mkF mi 48 #[.val (.int p)] [])) _
                refine XS.bipush X0.here hx rfl (hb hby d_method_3_code_48) ?_
                show Steps pg.tables ev below (s₁.setTop (mkF mi 50 #[.val (.int p)] [(.int (6 : Int32))])) _
                exact retI X0 hx Bd.returns (hb hby d_method_3_code_50) hr
              · show Q_dig Z p hE n0 _ s₁.heap _
                rw [eE]
                exact ⟨(by show some (Value.int (6 : Int32)) = some (Value.int (digF p)); unfold digF; rw [if_neg hc101, if_neg hc103, if_neg hc105, if_neg hc107, if_neg hc109, if_pos hc111]), N0, rfl⟩
            · have pre114 : ∀ tt, Steps pg.tables ev below (s₁.setTop (mkF mi 54 #[.val (.int p)] [(.int (10000000 : Int32)), (.int p)])) tt → Steps pg.tables ev below (s₁.setTop (entryFrame mi #[(.int p)] 1)) tt := fun tt kk => pre112 _ (by
                show Steps pg.tables ev below (s₁.setTop (mkF mi 45 #[.val (.int p)] [(.int (1000000 : Int32)), (.int p)])) _
                refine XS.icmpYes X0.here hx rfl (pc0 := 45) (pc' := 51) rfl (hb hby d_method_3_code_45) rfl (flt hc111).2.1 (by decide) (by decide) ?_
                show Steps pg.tables ev below (s₁.setTop (mkF mi 51 #[.val (.int p)] [])) _
                refine XS.iloadN X0.here hx rfl (hb hby d_method_3_code_51) rfl ?_
                show Steps pg.tables ev below (s₁.setTop (mkF mi 52 #[.val (.int p)] [(.int p)])) _
                refine X0.ldcInt hx hown (mvT hZ (wd163 hw)) (g := (mkF mi 52 #[.val (.int p)] [(.int p)])) rfl (hb hby d_method_3_code_52) _ ?_
                exact kk)
              by_cases hc113 : p < (10000000 : Int32)
              · obtain ⟨fs, hr, hrun, hended, hW, hsame⟩ := X0.leave (v := some (.int (7 : Int32))) (fun hq => by rw [Bd.returns] at hq; cases hq)
                refine ⟨_, _, pre114 _ ?_, hrun, hended, _, _, rfl, ?_, ⟨_, rfl⟩, hW, hsame.mono (by decide) (by decide)⟩
                · show Steps pg.tables ev below (s₁.setTop (mkF mi 54 #[.val (.int p)] [(.int (10000000 : Int32)), (.int p)])) _
                  refine XS.icmpNo X0.here hx rfl (hb hby d_method_3_code_54) rfl (tlt hc113).2.1 ?_
                  show Steps pg.tables ev below (s₁.setTop (mkF mi 57 #[.val (.int p)] [])) _
                  refine XS.bipush X0.here hx rfl (hb hby d_method_3_code_57) ?_
                  show Steps pg.tables ev below (s₁.setTop (mkF mi 59 #[.val (.int p)] [(.int (7 : Int32))])) _
                  exact retI X0 hx Bd.returns (hb hby d_method_3_code_59) hr
                · show Q_dig Z p hE n0 _ s₁.heap _
                  rw [eE]
                  exact ⟨(by show some (Value.int (7 : Int32)) = some (Value.int (digF p)); unfold digF; rw [if_neg hc101, if_neg hc103, if_neg hc105, if_neg hc107, if_neg hc109, if_neg hc111, if_pos hc113]), N0, rfl⟩
              · have pre116 : ∀ tt, Steps pg.tables ev below (s₁.setTop (mkF mi 63 #[.val (.int p)] [(.int (100000000 : Int32)), (.int p)])) tt → Steps pg.tables ev below (s₁.setTop (entryFrame mi #[(.int p)] 1)) tt := fun tt kk => pre114 _ (by
                  show Steps pg.tables ev below (s₁.setTop (mkF mi 54 #[.val (.int p)] [(.int (10000000 : Int32)), (.int p)])) _
                  refine XS.icmpYes X0.here hx rfl (pc0 := 54) (pc' := 60) rfl (hb hby d_method_3_code_54) rfl (flt hc113).2.1 (by decide) (by decide) ?_
                  show Steps pg.tables ev below (s₁.setTop (mkF mi 60 #[.val (.int p)] [])) _
                  refine XS.iloadN X0.here hx rfl (hb hby d_method_3_code_60) rfl ?_
                  show Steps pg.tables ev below (s₁.setTop (mkF mi 61 #[.val (.int p)] [(.int p)])) _
                  refine X0.ldcInt hx hown (mvT hZ (wd164 hw)) (g := (mkF mi 61 #[.val (.int p)] [(.int p)])) rfl (hb hby d_method_3_code_61) _ ?_
                  exact kk)
                by_cases hc115 : p < (100000000 : Int32)
                · obtain ⟨fs, hr, hrun, hended, hW, hsame⟩ := X0.leave (v := some (.int (8 : Int32))) (fun hq => by rw [Bd.returns] at hq; cases hq)
                  refine ⟨_, _, pre116 _ ?_, hrun, hended, _, _, rfl, ?_, ⟨_, rfl⟩, hW, hsame.mono (by decide) (by decide)⟩
                  · show Steps pg.tables ev below (s₁.setTop (mkF mi 63 #[.val (.int p)] [(.int (100000000 : Int32)), (.int p)])) _
                    refine XS.icmpNo X0.here hx rfl (hb hby d_method_3_code_63) rfl (tlt hc115).2.1 ?_
                    show Steps pg.tables ev below (s₁.setTop (mkF mi 66 #[.val (.int p)] [])) _
                    refine XS.bipush X0.here hx rfl (hb hby d_method_3_code_66) ?_
                    show Steps pg.tables ev below (s₁.setTop (mkF mi 68 #[.val (.int p)] [(.int (8 : Int32))])) _
                    exact retI X0 hx Bd.returns (hb hby d_method_3_code_68) hr
                  · show Q_dig Z p hE n0 _ s₁.heap _
                    rw [eE]
                    exact ⟨(by show some (Value.int (8 : Int32)) = some (Value.int (digF p)); unfold digF; rw [if_neg hc101, if_neg hc103, if_neg hc105, if_neg hc107, if_neg hc109, if_neg hc111, if_neg hc113, if_pos hc115]), N0, rfl⟩
                · have pre118 : ∀ tt, Steps pg.tables ev below (s₁.setTop (mkF mi 72 #[.val (.int p)] [(.int (1000000000 : Int32)), (.int p)])) tt → Steps pg.tables ev below (s₁.setTop (entryFrame mi #[(.int p)] 1)) tt := fun tt kk => pre116 _ (by
                    show Steps pg.tables ev below (s₁.setTop (mkF mi 63 #[.val (.int p)] [(.int (100000000 : Int32)), (.int p)])) _
                    refine XS.icmpYes X0.here hx rfl (pc0 := 63) (pc' := 69) rfl (hb hby d_method_3_code_63) rfl (flt hc115).2.1 (by decide) (by decide) ?_
                    show Steps pg.tables ev below (s₁.setTop (mkF mi 69 #[.val (.int p)] [])) _
                    refine XS.iloadN X0.here hx rfl (hb hby d_method_3_code_69) rfl ?_
                    show Steps pg.tables ev below (s₁.setTop (mkF mi 70 #[.val (.int p)] [(.int p)])) _
                    refine X0.ldcInt hx hown (mvT hZ (wd165 hw)) (g := (mkF mi 70 #[.val (.int p)] [(.int p)])) rfl (hb hby d_method_3_code_70) _ ?_
                    exact kk)
                  by_cases hc117 : p < (1000000000 : Int32)
                  · obtain ⟨fs, hr, hrun, hended, hW, hsame⟩ := X0.leave (v := some (.int (9 : Int32))) (fun hq => by rw [Bd.returns] at hq; cases hq)
                    refine ⟨_, _, pre118 _ ?_, hrun, hended, _, _, rfl, ?_, ⟨_, rfl⟩, hW, hsame.mono (by decide) (by decide)⟩
                    · show Steps pg.tables ev below (s₁.setTop (mkF mi 72 #[.val (.int p)] [(.int (1000000000 : Int32)), (.int p)])) _
                      refine XS.icmpNo X0.here hx rfl (hb hby d_method_3_code_72) rfl (tlt hc117).2.1 ?_
                      show Steps pg.tables ev below (s₁.setTop (mkF mi 75 #[.val (.int p)] [])) _
                      refine XS.bipush X0.here hx rfl (hb hby d_method_3_code_75) ?_
                      show Steps pg.tables ev below (s₁.setTop (mkF mi 77 #[.val (.int p)] [(.int (9 : Int32))])) _
                      exact retI X0 hx Bd.returns (hb hby d_method_3_code_77) hr
                    · show Q_dig Z p hE n0 _ s₁.heap _
                      rw [eE]
                      exact ⟨(by show some (Value.int (9 : Int32)) = some (Value.int (digF p)); unfold digF; rw [if_neg hc101, if_neg hc103, if_neg hc105, if_neg hc107, if_neg hc109, if_neg hc111, if_neg hc113, if_neg hc115, if_pos hc117]), N0, rfl⟩
                  · obtain ⟨fs, hr, hrun, hended, hW, hsame⟩ := X0.leave (v := some (.int (10 : Int32))) (fun hq => by rw [Bd.returns] at hq; cases hq)
                    refine ⟨_, _, pre118 _ ?_, hrun, hended, _, _, rfl, ?_, ⟨_, rfl⟩, hW, hsame.mono (by decide) (by decide)⟩
                    · show Steps pg.tables ev below (s₁.setTop (mkF mi 72 #[.val (.int p)] [(.int (1000000000 : Int32)), (.int p)])) _
                      refine XS.icmpYes X0.here hx rfl (pc0 := 72) (pc' := 78) rfl (hb hby d_method_3_code_72) rfl (flt hc117).2.1 (by decide) (by decide) ?_
                      show Steps pg.tables ev below (s₁.setTop (mkF mi 78 #[.val (.int p)] [])) _
                      refine XS.bipush X0.here hx rfl (hb hby d_method_3_code_78) ?_
                      show Steps pg.tables ev below (s₁.setTop (mkF mi 80 #[.val (.int p)] [(.int (10 : Int32))])) _
                      exact retI X0 hx Bd.returns (hb hby d_method_3_code_80) hr
                    · show Q_dig Z p hE n0 _ s₁.heap _
                      rw [eE]
                      exact ⟨(by show some (Value.int (10 : Int32)) = some (Value.int (digF p)); unfold digF; rw [if_neg hc101, if_neg hc103, if_neg hc105, if_neg hc107, if_neg hc109, if_neg hc111, if_neg hc113, if_neg hc115, if_neg hc117]), N0, rfl⟩
theorem d_method_4_code_0 : decode method_4_code 0 = .ok (.iload_n 0, 1) := by decide +kernel
theorem d_method_4_code_1 : decode method_4_code 1 = .ok (.ifCond .gt 5, 3) := by decide +kernel
theorem d_method_4_code_4 : decode method_4_code 4 = .ok (.iconst 1, 1) := by decide +kernel
theorem d_method_4_code_5 : decode method_4_code 5 = .ok (.ireturn, 1) := by decide +kernel
theorem d_method_4_code_6 : decode method_4_code 6 = .ok (.iload_n 0, 1) := by decide +kernel
theorem d_method_4_code_7 : decode method_4_code 7 = .ok (.iconst 1, 1) := by decide +kernel
theorem d_method_4_code_8 : decode method_4_code 8 = .ok (.if_icmp .ne 6, 3) := by decide +kernel
theorem d_method_4_code_11 : decode method_4_code 11 = .ok (.bipush 10, 2) := by decide +kernel
theorem d_method_4_code_13 : decode method_4_code 13 = .ok (.ireturn, 1) := by decide +kernel
theorem d_method_4_code_14 : decode method_4_code 14 = .ok (.iload_n 0, 1) := by decide +kernel
theorem d_method_4_code_15 : decode method_4_code 15 = .ok (.iconst 2, 1) := by decide +kernel
theorem d_method_4_code_16 : decode method_4_code 16 = .ok (.if_icmp .ne 6, 3) := by decide +kernel
theorem d_method_4_code_19 : decode method_4_code 19 = .ok (.bipush 100, 2) := by decide +kernel
theorem d_method_4_code_21 : decode method_4_code 21 = .ok (.ireturn, 1) := by decide +kernel
theorem d_method_4_code_22 : decode method_4_code 22 = .ok (.iload_n 0, 1) := by decide +kernel
theorem d_method_4_code_23 : decode method_4_code 23 = .ok (.iconst 3, 1) := by decide +kernel
theorem d_method_4_code_24 : decode method_4_code 24 = .ok (.if_icmp .ne 7, 3) := by decide +kernel
theorem d_method_4_code_27 : decode method_4_code 27 = .ok (.sipush 1000, 3) := by decide +kernel
theorem d_method_4_code_30 : decode method_4_code 30 = .ok (.ireturn, 1) := by decide +kernel
theorem d_method_4_code_31 : decode method_4_code 31 = .ok (.iload_n 0, 1) := by decide +kernel
theorem d_method_4_code_32 : decode method_4_code 32 = .ok (.iconst 4, 1) := by decide +kernel
theorem d_method_4_code_33 : decode method_4_code 33 = .ok (.if_icmp .ne 7, 3) := by decide +kernel
theorem d_method_4_code_36 : decode method_4_code 36 = .ok (.sipush 10000, 3) := by decide +kernel
theorem d_method_4_code_39 : decode method_4_code 39 = .ok (.ireturn, 1) := by decide +kernel
theorem d_method_4_code_40 : decode method_4_code 40 = .ok (.iload_n 0, 1) := by decide +kernel
theorem d_method_4_code_41 : decode method_4_code 41 = .ok (.iconst 5, 1) := by decide +kernel
theorem d_method_4_code_42 : decode method_4_code 42 = .ok (.if_icmp .ne 6, 3) := by decide +kernel
theorem d_method_4_code_45 : decode method_4_code 45 = .ok (.ldc 47, 2) := by decide +kernel
theorem d_method_4_code_47 : decode method_4_code 47 = .ok (.ireturn, 1) := by decide +kernel
theorem d_method_4_code_48 : decode method_4_code 48 = .ok (.iload_n 0, 1) := by decide +kernel
theorem d_method_4_code_49 : decode method_4_code 49 = .ok (.bipush 6, 2) := by decide +kernel
theorem d_method_4_code_51 : decode method_4_code 51 = .ok (.if_icmp .ne 6, 3) := by decide +kernel
theorem d_method_4_code_54 : decode method_4_code 54 = .ok (.ldc 48, 2) := by decide +kernel
theorem d_method_4_code_56 : decode method_4_code 56 = .ok (.ireturn, 1) := by decide +kernel
theorem d_method_4_code_57 : decode method_4_code 57 = .ok (.iload_n 0, 1) := by decide +kernel
theorem d_method_4_code_58 : decode method_4_code 58 = .ok (.bipush 7, 2) := by decide +kernel
theorem d_method_4_code_60 : decode method_4_code 60 = .ok (.if_icmp .ne 6, 3) := by decide +kernel
theorem d_method_4_code_63 : decode method_4_code 63 = .ok (.ldc 49, 2) := by decide +kernel
theorem d_method_4_code_65 : decode method_4_code 65 = .ok (.ireturn, 1) := by decide +kernel
theorem d_method_4_code_66 : decode method_4_code 66 = .ok (.iload_n 0, 1) := by decide +kernel
theorem d_method_4_code_67 : decode method_4_code 67 = .ok (.bipush 8, 2) := by decide +kernel
theorem d_method_4_code_69 : decode method_4_code 69 = .ok (.if_icmp .ne 6, 3) := by decide +kernel
theorem d_method_4_code_72 : decode method_4_code 72 = .ok (.ldc 50, 2) := by decide +kernel
theorem d_method_4_code_74 : decode method_4_code 74 = .ok (.ireturn, 1) := by decide +kernel
theorem d_method_4_code_75 : decode method_4_code 75 = .ok (.ldc 51, 2) := by decide +kernel
theorem d_method_4_code_77 : decode method_4_code 77 = .ok (.ireturn, 1) := by decide +kernel
theorem ef_pw (mi : MethodId) (q : Int32) : entryFrame mi #[(.int q)] 1 = mkF mi 0 #[.val (.int q)] [] := by first | (simp [entryFrame, mkF, argsToLocals, Value.category]; done) | rfl
def Q_pw (Z : State) (q : Int32) (hE : Heap) (n0 : Nat) (vv : Option Value) (hh : Heap) (LL : List Loc) : Prop := (vv = some (.int (powF q))) ∧ (Fr n0 LL) ∧ (hh = hE)
set_option maxRecDepth 65536 in
set_option maxHeartbeats 40000000 in
theorem rm_pw (la : Launch) (Z : State) (a0 : Array Value) (hw : ∀ d ∈ tables_1, d.before a0 Z = true) (ws : List Jvm.Cond) (q : Int32) (hE : Heap) (n0 : Nat) (O : Old Z n0 hE) :
    MetFree la mn18 (head1 (Jvm.Cond.code mn18 method_4_code 1 (some .int) :: ws) ({ frames := 0, cells := 0, slots := 0, locals := 0 } : Room)) (fun aa UU => aa = #[(.int q)] ∧ Z.Warmed39 UU.vm ∧ UU.heap = hE) (fun _ _ _ _ _ => True) (fun _ UU oo UV => ∃ vv LL, oo = .returned vv ∧ Q_pw Z q hE n0 vv UV.heap LL ∧ FrameEnd UU oo UV LL ({ frames := 0, cells := 0, slots := 0, locals := 0 } : Room).cells ({ frames := 0, cells := 0, slots := 0, locals := 0 } : Room).slots) := by
  refine MetFree.of_bodySF (plainFor_of_name pn_com_example_endless_runs_endlessruns_automaton_LabelPropositionPinLaw) hisR ?_
  intro pg ev sb mi gs below me cd s₁ Bd hml0 hPt hKt
  obtain ⟨rfl, hZ, hh⟩ := hPt
  have hx := Bd.exec
  have hby := Bd.bytes
  have hml : cd.maxLocals = 1 := hml0
  have hown : sb.vm.findClass "com/example/endless_runs/endlessruns/automaton/LabelPropositionPinLaw" = some mi.cls := findClass_of_methodNamed Bd.named
  have hnm := (name_of_methodNamed Bd.named Bd.method).1
  have X0 : Stand pg la ev ({ frames := 0, cells := 0, slots := 0, locals := 0 } : Room) sb mi #[(.int q)] below me cd s₁ [] 0 0 := Stand.of_body Bd
  have eE : s₁.heap = hE := by rw [← hh, Bd.state]; rfl
  have N0 := Fr.nil n0
  have pre0 : ∀ tt, Steps pg.tables ev below (s₁.setTop (mkF mi 0 #[.val (.int q)] [])) tt → Steps pg.tables ev below (s₁.setTop (entryFrame mi #[(.int q)] 1)) tt := fun tt kk => castTop (ef_pw mi q) kk
  have pre102 : ∀ tt, Steps pg.tables ev below (s₁.setTop (mkF mi 1 #[.val (.int q)] [(.int q)])) tt → Steps pg.tables ev below (s₁.setTop (entryFrame mi #[(.int q)] 1)) tt := fun tt kk => pre0 _ (by
    show Steps pg.tables ev below (s₁.setTop (mkF mi 0 #[.val (.int q)] [])) _
    refine XS.iloadN X0.here hx rfl (hb hby d_method_4_code_0) rfl ?_
    exact kk)
  by_cases hc101 : (0 : Int32) < q
  · have pre104 : ∀ tt, Steps pg.tables ev below (s₁.setTop (mkF mi 8 #[.val (.int q)] [(.int (1 : Int32)), (.int q)])) tt → Steps pg.tables ev below (s₁.setTop (entryFrame mi #[(.int q)] 1)) tt := fun tt kk => pre102 _ (by
      show Steps pg.tables ev below (s₁.setTop (mkF mi 1 #[.val (.int q)] [(.int q)])) _
      refine XS.ifYes X0.here hx rfl (pc0 := 1) (pc' := 6) rfl (hb hby d_method_4_code_1) rfl ((if0 _ _).trans (tlt hc101).2.2.1) (by decide) (by decide) ?_
      show Steps pg.tables ev below (s₁.setTop (mkF mi 6 #[.val (.int q)] [])) _
      refine XS.iloadN X0.here hx rfl (hb hby d_method_4_code_6) rfl ?_
      show Steps pg.tables ev below (s₁.setTop (mkF mi 7 #[.val (.int q)] [(.int q)])) _
      refine XS.iconst X0.here hx rfl (hb hby d_method_4_code_7) ?_
      exact kk)
    by_cases hc103 : q = (1 : Int32)
    · obtain ⟨fs, hr, hrun, hended, hW, hsame⟩ := X0.leave (v := some (.int (10 : Int32))) (fun hq => by rw [Bd.returns] at hq; cases hq)
      refine ⟨_, _, pre104 _ ?_, hrun, hended, _, _, rfl, ?_, ⟨_, rfl⟩, hW, hsame.mono (by decide) (by decide)⟩
      · show Steps pg.tables ev below (s₁.setTop (mkF mi 8 #[.val (.int q)] [(.int (1 : Int32)), (.int q)])) _
        refine XS.icmpNo X0.here hx rfl (hb hby d_method_4_code_8) rfl (teq hc103).2 ?_
        show Steps pg.tables ev below (s₁.setTop (mkF mi 11 #[.val (.int q)] [])) _
        refine XS.bipush X0.here hx rfl (hb hby d_method_4_code_11) ?_
        show Steps pg.tables ev below (s₁.setTop (mkF mi 13 #[.val (.int q)] [(.int (10 : Int32))])) _
        exact retI X0 hx Bd.returns (hb hby d_method_4_code_13) hr
      · show Q_pw Z q hE n0 _ s₁.heap _
        rw [eE]
        exact ⟨(by show some (Value.int (10 : Int32)) = some (Value.int (powF q)); unfold powF; rw [if_pos hc101, if_pos hc103]), N0, rfl⟩
    · have pre106 : ∀ tt, Steps pg.tables ev below (s₁.setTop (mkF mi 16 #[.val (.int q)] [(.int (2 : Int32)), (.int q)])) tt → Steps pg.tables ev below (s₁.setTop (entryFrame mi #[(.int q)] 1)) tt := fun tt kk => pre104 _ (by
        show Steps pg.tables ev below (s₁.setTop (mkF mi 8 #[.val (.int q)] [(.int (1 : Int32)), (.int q)])) _
        refine XS.icmpYes X0.here hx rfl (pc0 := 8) (pc' := 14) rfl (hb hby d_method_4_code_8) rfl (feq hc103).2 (by decide) (by decide) ?_
        show Steps pg.tables ev below (s₁.setTop (mkF mi 14 #[.val (.int q)] [])) _
        refine XS.iloadN X0.here hx rfl (hb hby d_method_4_code_14) rfl ?_
        show Steps pg.tables ev below (s₁.setTop (mkF mi 15 #[.val (.int q)] [(.int q)])) _
        refine XS.iconst X0.here hx rfl (hb hby d_method_4_code_15) ?_
        exact kk)
      by_cases hc105 : q = (2 : Int32)
      · obtain ⟨fs, hr, hrun, hended, hW, hsame⟩ := X0.leave (v := some (.int (100 : Int32))) (fun hq => by rw [Bd.returns] at hq; cases hq)
        refine ⟨_, _, pre106 _ ?_, hrun, hended, _, _, rfl, ?_, ⟨_, rfl⟩, hW, hsame.mono (by decide) (by decide)⟩
        · show Steps pg.tables ev below (s₁.setTop (mkF mi 16 #[.val (.int q)] [(.int (2 : Int32)), (.int q)])) _
          refine XS.icmpNo X0.here hx rfl (hb hby d_method_4_code_16) rfl (teq hc105).2 ?_
          show Steps pg.tables ev below (s₁.setTop (mkF mi 19 #[.val (.int q)] [])) _
          refine XS.bipush X0.here hx rfl (hb hby d_method_4_code_19) ?_
          show Steps pg.tables ev below (s₁.setTop (mkF mi 21 #[.val (.int q)] [(.int (100 : Int32))])) _
          exact retI X0 hx Bd.returns (hb hby d_method_4_code_21) hr
        · show Q_pw Z q hE n0 _ s₁.heap _
          rw [eE]
          exact ⟨(by show some (Value.int (100 : Int32)) = some (Value.int (powF q)); unfold powF; rw [if_pos hc101, if_neg hc103, if_pos hc105]), N0, rfl⟩
      · have pre108 : ∀ tt, Steps pg.tables ev below (s₁.setTop (mkF mi 24 #[.val (.int q)] [(.int (3 : Int32)), (.int q)])) tt → Steps pg.tables ev below (s₁.setTop (entryFrame mi #[(.int q)] 1)) tt := fun tt kk => pre106 _ (by
          show Steps pg.tables ev below (s₁.setTop (mkF mi 16 #[.val (.int q)] [(.int (2 : Int32)), (.int q)])) _
          refine XS.icmpYes X0.here hx rfl (pc0 := 16) (pc' := 22) rfl (hb hby d_method_4_code_16) rfl (feq hc105).2 (by decide) (by decide) ?_
          show Steps pg.tables ev below (s₁.setTop (mkF mi 22 #[.val (.int q)] [])) _
          refine XS.iloadN X0.here hx rfl (hb hby d_method_4_code_22) rfl ?_
          show Steps pg.tables ev below (s₁.setTop (mkF mi 23 #[.val (.int q)] [(.int q)])) _
          refine XS.iconst X0.here hx rfl (hb hby d_method_4_code_23) ?_
          exact kk)
        by_cases hc107 : q = (3 : Int32)
        · obtain ⟨fs, hr, hrun, hended, hW, hsame⟩ := X0.leave (v := some (.int (1000 : Int32))) (fun hq => by rw [Bd.returns] at hq; cases hq)
          refine ⟨_, _, pre108 _ ?_, hrun, hended, _, _, rfl, ?_, ⟨_, rfl⟩, hW, hsame.mono (by decide) (by decide)⟩
          · show Steps pg.tables ev below (s₁.setTop (mkF mi 24 #[.val (.int q)] [(.int (3 : Int32)), (.int q)])) _
            refine XS.icmpNo X0.here hx rfl (hb hby d_method_4_code_24) rfl (teq hc107).2 ?_
            show Steps pg.tables ev below (s₁.setTop (mkF mi 27 #[.val (.int q)] [])) _
            refine XS.sipush X0.here hx rfl (hb hby d_method_4_code_27) ?_
            show Steps pg.tables ev below (s₁.setTop (mkF mi 30 #[.val (.int q)] [(.int (1000 : Int32))])) _
            exact retI X0 hx Bd.returns (hb hby d_method_4_code_30) hr
          · show Q_pw Z q hE n0 _ s₁.heap _
            rw [eE]
            exact ⟨(by show some (Value.int (1000 : Int32)) = some (Value.int (powF q)); unfold powF; rw [if_pos hc101, if_neg hc103, if_neg hc105, if_pos hc107]), N0, rfl⟩
        · have pre110 : ∀ tt, Steps pg.tables ev below (s₁.setTop (mkF mi 33 #[.val (.int q)] [(.int (4 : Int32)), (.int q)])) tt → Steps pg.tables ev below (s₁.setTop (entryFrame mi #[(.int q)] 1)) tt := fun tt kk => pre108 _ (by
            show Steps pg.tables ev below (s₁.setTop (mkF mi 24 #[.val (.int q)] [(.int (3 : Int32)), (.int q)])) _
            refine XS.icmpYes X0.here hx rfl (pc0 := 24) (pc' := 31) rfl (hb hby d_method_4_code_24) rfl (feq hc107).2 (by decide) (by decide) ?_
            show Steps pg.tables ev below (s₁.setTop (mkF mi 31 #[.val (.int q)] [])) _
            refine XS.iloadN X0.here hx rfl (hb hby d_method_4_code_31) rfl ?_
            show Steps pg.tables ev below (s₁.setTop (mkF mi 32 #[.val (.int q)] [(.int q)])) _
            refine XS.iconst X0.here hx rfl (hb hby d_method_4_code_32) ?_
            exact kk)
          by_cases hc109 : q = (4 : Int32)
          · obtain ⟨fs, hr, hrun, hended, hW, hsame⟩ := X0.leave (v := some (.int (10000 : Int32))) (fun hq => by rw [Bd.returns] at hq; cases hq)
            refine ⟨_, _, pre110 _ ?_, hrun, hended, _, _, rfl, ?_, ⟨_, rfl⟩, hW, hsame.mono (by decide) (by decide)⟩
            · show Steps pg.tables ev below (s₁.setTop (mkF mi 33 #[.val (.int q)] [(.int (4 : Int32)), (.int q)])) _
              refine XS.icmpNo X0.here hx rfl (hb hby d_method_4_code_33) rfl (teq hc109).2 ?_
              show Steps pg.tables ev below (s₁.setTop (mkF mi 36 #[.val (.int q)] [])) _
              refine XS.sipush X0.here hx rfl (hb hby d_method_4_code_36) ?_
              show Steps pg.tables ev below (s₁.setTop (mkF mi 39 #[.val (.int q)] [(.int (10000 : Int32))])) _
              exact retI X0 hx Bd.returns (hb hby d_method_4_code_39) hr
            · show Q_pw Z q hE n0 _ s₁.heap _
              rw [eE]
              exact ⟨(by show some (Value.int (10000 : Int32)) = some (Value.int (powF q)); unfold powF; rw [if_pos hc101, if_neg hc103, if_neg hc105, if_neg hc107, if_pos hc109]), N0, rfl⟩
          · have pre112 : ∀ tt, Steps pg.tables ev below (s₁.setTop (mkF mi 42 #[.val (.int q)] [(.int (5 : Int32)), (.int q)])) tt → Steps pg.tables ev below (s₁.setTop (entryFrame mi #[(.int q)] 1)) tt := fun tt kk => pre110 _ (by
              show Steps pg.tables ev below (s₁.setTop (mkF mi 33 #[.val (.int q)] [(.int (4 : Int32)), (.int q)])) _
              refine XS.icmpYes X0.here hx rfl (pc0 := 33) (pc' := 40) rfl (hb hby d_method_4_code_33) rfl (feq hc109).2 (by decide) (by decide) ?_
              show Steps pg.tables ev below (s₁.setTop (mkF mi 40 #[.val (.int q)] [])) _
              refine XS.iloadN X0.here hx rfl (hb hby d_method_4_code_40) rfl ?_
              show Steps pg.tables ev below (s₁.setTop (mkF mi 41 #[.val (.int q)] [(.int q)])) _
              refine XS.iconst X0.here hx rfl (hb hby d_method_4_code_41) ?_
              exact kk)
            by_cases hc111 : q = (5 : Int32)
            · obtain ⟨fs, hr, hrun, hended, hW, hsame⟩ := X0.leave (v := some (.int (100000 : Int32))) (fun hq => by rw [Bd.returns] at hq; cases hq)
              refine ⟨_, _, pre112 _ ?_, hrun, hended, _, _, rfl, ?_, ⟨_, rfl⟩, hW, hsame.mono (by decide) (by decide)⟩
              · show Steps pg.tables ev below (s₁.setTop (mkF mi 42 #[.val (.int q)] [(.int (5 : Int32)), (.int q)])) _
                refine XS.icmpNo X0.here hx rfl (hb hby d_method_4_code_42) rfl (teq hc111).2 ?_
                show Steps pg.tables ev below (s₁.setTop (mkF mi 45 #[.val (.int q)] [])) _
                refine X0.ldcInt hx hown (mvT hZ (wd161 hw)) (g := (mkF mi 45 #[.val (.int q)] [])) rfl (hb hby d_method_4_code_45) _ ?_
                show Steps pg.tables ev below (s₁.setTop (mkF mi 47 #[.val (.int q)] [(.int (100000 : Int32))])) _
                exact retI X0 hx Bd.returns (hb hby d_method_4_code_47) hr
              · show Q_pw Z q hE n0 _ s₁.heap _
                rw [eE]
                exact ⟨(by show some (Value.int (100000 : Int32)) = some (Value.int (powF q)); unfold powF; rw [if_pos hc101, if_neg hc103, if_neg hc105, if_neg hc107, if_neg hc109, if_pos hc111]), N0, rfl⟩
            · have pre114 : ∀ tt, Steps pg.tables ev below (s₁.setTop (mkF mi 51 #[.val (.int q)] [(.int (6 : Int32)), (.int q)])) tt → Steps pg.tables ev below (s₁.setTop (entryFrame mi #[(.int q)] 1)) tt := fun tt kk => pre112 _ (by
                show Steps pg.tables ev below (s₁.setTop (mkF mi 42 #[.val (.int q)] [(.int (5 : Int32)), (.int q)])) _
                refine XS.icmpYes X0.here hx rfl (pc0 := 42) (pc' := 48) rfl (hb hby d_method_4_code_42) rfl (feq hc111).2 (by decide) (by decide) ?_
                show Steps pg.tables ev below (s₁.setTop (mkF mi 48 #[.val (.int q)] [])) _
                refine XS.iloadN X0.here hx rfl (hb hby d_method_4_code_48) rfl ?_
                show Steps pg.tables ev below (s₁.setTop (mkF mi 49 #[.val (.int q)] [(.int q)])) _
                refine XS.bipush X0.here hx rfl (hb hby d_method_4_code_49) ?_
                exact kk)
              by_cases hc113 : q = (6 : Int32)
              · obtain ⟨fs, hr, hrun, hended, hW, hsame⟩ := X0.leave (v := some (.int (1000000 : Int32))) (fun hq => by rw [Bd.returns] at hq; cases hq)
                refine ⟨_, _, pre114 _ ?_, hrun, hended, _, _, rfl, ?_, ⟨_, rfl⟩, hW, hsame.mono (by decide) (by decide)⟩
                · show Steps pg.tables ev below (s₁.setTop (mkF mi 51 #[.val (.int q)] [(.int (6 : Int32)), (.int q)])) _
                  refine XS.icmpNo X0.here hx rfl (hb hby d_method_4_code_51) rfl (teq hc113).2 ?_
                  show Steps pg.tables ev below (s₁.setTop (mkF mi 54 #[.val (.int q)] [])) _
                  refine X0.ldcInt hx hown (mvT hZ (wd162 hw)) (g := (mkF mi 54 #[.val (.int q)] [])) rfl (hb hby d_method_4_code_54) _ ?_
                  show Steps pg.tables ev below (s₁.setTop (mkF mi 56 #[.val (.int q)] [(.int (1000000 : Int32))])) _
                  exact retI X0 hx Bd.returns (hb hby d_method_4_code_56) hr
                · show Q_pw Z q hE n0 _ s₁.heap _
                  rw [eE]
                  exact ⟨(by show some (Value.int (1000000 : Int32)) = some (Value.int (powF q)); unfold powF; rw [if_pos hc101, if_neg hc103, if_neg hc105, if_neg hc107, if_neg hc109, if_neg hc111, if_pos hc113]), N0, rfl⟩
              · have pre116 : ∀ tt, Steps pg.tables ev below (s₁.setTop (mkF mi 60 #[.val (.int q)] [(.int (7 : Int32)), (.int q)])) tt → Steps pg.tables ev below (s₁.setTop (entryFrame mi #[(.int q)] 1)) tt := fun tt kk => pre114 _ (by
                  show Steps pg.tables ev below (s₁.setTop (mkF mi 51 #[.val (.int q)] [(.int (6 : Int32)), (.int q)])) _
                  refine XS.icmpYes X0.here hx rfl (pc0 := 51) (pc' := 57) rfl (hb hby d_method_4_code_51) rfl (feq hc113).2 (by decide) (by decide) ?_
                  show Steps pg.tables ev below (s₁.setTop (mkF mi 57 #[.val (.int q)] [])) _
                  refine XS.iloadN X0.here hx rfl (hb hby d_method_4_code_57) rfl ?_
                  show Steps pg.tables ev below (s₁.setTop (mkF mi 58 #[.val (.int q)] [(.int q)])) _
                  refine XS.bipush X0.here hx rfl (hb hby d_method_4_code_58) ?_
                  exact kk)
                by_cases hc115 : q = (7 : Int32)
                · obtain ⟨fs, hr, hrun, hended, hW, hsame⟩ := X0.leave (v := some (.int (10000000 : Int32))) (fun hq => by rw [Bd.returns] at hq; cases hq)
                  refine ⟨_, _, pre116 _ ?_, hrun, hended, _, _, rfl, ?_, ⟨_, rfl⟩, hW, hsame.mono (by decide) (by decide)⟩
                  · show Steps pg.tables ev below (s₁.setTop (mkF mi 60 #[.val (.int q)] [(.int (7 : Int32)), (.int q)])) _
                    refine XS.icmpNo X0.here hx rfl (hb hby d_method_4_code_60) rfl (teq hc115).2 ?_
                    show Steps pg.tables ev below (s₁.setTop (mkF mi 63 #[.val (.int q)] [])) _
                    refine X0.ldcInt hx hown (mvT hZ (wd163 hw)) (g := (mkF mi 63 #[.val (.int q)] [])) rfl (hb hby d_method_4_code_63) _ ?_
                    show Steps pg.tables ev below (s₁.setTop (mkF mi 65 #[.val (.int q)] [(.int (10000000 : Int32))])) _
                    exact retI X0 hx Bd.returns (hb hby d_method_4_code_65) hr
                  · show Q_pw Z q hE n0 _ s₁.heap _
                    rw [eE]
                    exact ⟨(by show some (Value.int (10000000 : Int32)) = some (Value.int (powF q)); unfold powF; rw [if_pos hc101, if_neg hc103, if_neg hc105, if_neg hc107, if_neg hc109, if_neg hc111, if_neg hc113, if_pos hc115]), N0, rfl⟩
                · have pre118 : ∀ tt, Steps pg.tables ev below (s₁.setTop (mkF mi 69 #[.val (.int q)] [(.int (8 : Int32)), (.int q)])) tt → Steps pg.tables ev below (s₁.setTop (entryFrame mi #[(.int q)] 1)) tt := fun tt kk => pre116 _ (by
                    show Steps pg.tables ev below (s₁.setTop (mkF mi 60 #[.val (.int q)] [(.int (7 : Int32)), (.int q)])) _
                    refine XS.icmpYes X0.here hx rfl (pc0 := 60) (pc' := 66) rfl (hb hby d_method_4_code_60) rfl (feq hc115).2 (by decide) (by decide) ?_
                    show Steps pg.tables ev below (s₁.setTop (mkF mi 66 #[.val (.int q)] [])) _
                    refine XS.iloadN X0.here hx rfl (hb hby d_method_4_code_66) rfl ?_
                    show Steps pg.tables ev below (s₁.setTop (mkF mi 67 #[.val (.int q)] [(.int q)])) _
                    refine XS.bipush X0.here hx rfl (hb hby d_method_4_code_67) ?_
                    exact kk)
                  by_cases hc117 : q = (8 : Int32)
                  · obtain ⟨fs, hr, hrun, hended, hW, hsame⟩ := X0.leave (v := some (.int (100000000 : Int32))) (fun hq => by rw [Bd.returns] at hq; cases hq)
                    refine ⟨_, _, pre118 _ ?_, hrun, hended, _, _, rfl, ?_, ⟨_, rfl⟩, hW, hsame.mono (by decide) (by decide)⟩
                    · show Steps pg.tables ev below (s₁.setTop (mkF mi 69 #[.val (.int q)] [(.int (8 : Int32)), (.int q)])) _
                      refine XS.icmpNo X0.here hx rfl (hb hby d_method_4_code_69) rfl (teq hc117).2 ?_
                      show Steps pg.tables ev below (s₁.setTop (mkF mi 72 #[.val (.int q)] [])) _
                      refine X0.ldcInt hx hown (mvT hZ (wd164 hw)) (g := (mkF mi 72 #[.val (.int q)] [])) rfl (hb hby d_method_4_code_72) _ ?_
                      show Steps pg.tables ev below (s₁.setTop (mkF mi 74 #[.val (.int q)] [(.int (100000000 : Int32))])) _
                      exact retI X0 hx Bd.returns (hb hby d_method_4_code_74) hr
                    · show Q_pw Z q hE n0 _ s₁.heap _
                      rw [eE]
                      exact ⟨(by show some (Value.int (100000000 : Int32)) = some (Value.int (powF q)); unfold powF; rw [if_pos hc101, if_neg hc103, if_neg hc105, if_neg hc107, if_neg hc109, if_neg hc111, if_neg hc113, if_neg hc115, if_pos hc117]), N0, rfl⟩
                  · obtain ⟨fs, hr, hrun, hended, hW, hsame⟩ := X0.leave (v := some (.int (1000000000 : Int32))) (fun hq => by rw [Bd.returns] at hq; cases hq)
                    refine ⟨_, _, pre118 _ ?_, hrun, hended, _, _, rfl, ?_, ⟨_, rfl⟩, hW, hsame.mono (by decide) (by decide)⟩
                    · show Steps pg.tables ev below (s₁.setTop (mkF mi 69 #[.val (.int q)] [(.int (8 : Int32)), (.int q)])) _
                      refine XS.icmpYes X0.here hx rfl (pc0 := 69) (pc' := 75) rfl (hb hby d_method_4_code_69) rfl (feq hc117).2 (by decide) (by decide) ?_
                      show Steps pg.tables ev below (s₁.setTop (mkF mi 75 #[.val (.int q)] [])) _
                      refine X0.ldcInt hx hown (mvT hZ (wd165 hw)) (g := (mkF mi 75 #[.val (.int q)] [])) rfl (hb hby d_method_4_code_75) _ ?_
                      show Steps pg.tables ev below (s₁.setTop (mkF mi 77 #[.val (.int q)] [(.int (1000000000 : Int32))])) _
                      exact retI X0 hx Bd.returns (hb hby d_method_4_code_77) hr
                    · show Q_pw Z q hE n0 _ s₁.heap _
                      rw [eE]
                      exact ⟨(by show some (Value.int (1000000000 : Int32)) = some (Value.int (powF q)); unfold powF; rw [if_pos hc101, if_neg hc103, if_neg hc105, if_neg hc107, if_neg hc109, if_neg hc111, if_neg hc113, if_neg hc115, if_neg hc117]), N0, rfl⟩
  · obtain ⟨fs, hr, hrun, hended, hW, hsame⟩ := X0.leave (v := some (.int (1 : Int32))) (fun hq => by rw [Bd.returns] at hq; cases hq)
    refine ⟨_, _, pre102 _ ?_, hrun, hended, _, _, rfl, ?_, ⟨_, rfl⟩, hW, hsame.mono (by decide) (by decide)⟩
    · show Steps pg.tables ev below (s₁.setTop (mkF mi 1 #[.val (.int q)] [(.int q)])) _
      refine XS.ifNo X0.here hx rfl (hb hby d_method_4_code_1) rfl ((if0 _ _).trans (flt hc101).2.2.1) ?_
      show Steps pg.tables ev below (s₁.setTop (mkF mi 4 #[.val (.int q)] [])) _
      refine XS.iconst X0.here hx rfl (hb hby d_method_4_code_4) ?_
      show Steps pg.tables ev below (s₁.setTop (mkF mi 5 #[.val (.int q)] [(.int (1 : Int32))])) _
      exact retI X0 hx Bd.returns (hb hby d_method_4_code_5) hr
    · show Q_pw Z q hE n0 _ s₁.heap _
      rw [eE]
      exact ⟨(by show some (Value.int (1 : Int32)) = some (Value.int (powF q)); unfold powF; rw [if_neg hc101]), N0, rfl⟩
theorem d_jdk_45_method_3_code_0 : decode jdk_45_method_3_code 0 = .ok (.aload_n 0, 1) := by decide +kernel
theorem d_jdk_45_method_3_code_1 : decode jdk_45_method_3_code 1 = .ok (.getfield 7, 3) := by decide +kernel
theorem d_jdk_45_method_3_code_4 : decode jdk_45_method_3_code 4 = .ok (.arraylength, 1) := by decide +kernel
theorem d_jdk_45_method_3_code_5 : decode jdk_45_method_3_code 5 = .ok (.ireturn, 1) := by decide +kernel
theorem pn_java_util_ImmutableCollections_ListN : plainName "java/util/ImmutableCollections$ListN" = true := by first | (simp [plainName, overriddenIn]; done) | decide +kernel
theorem ef_lns (mi : MethodId) (a : Addr) : entryFrame mi #[(.ref a)] 1 = mkF mi 0 #[.val (.ref a)] [] := by first | (simp [entryFrame, mkF, argsToLocals, Value.category]; done) | rfl
def Q_lns (Z : State) (a : Addr) (el : Addr) (ke : ClassId) (hE : Heap) (n0 : Nat) (vv : Option Value) (hh : Heap) (LL : List Loc) : Prop := (vv = some (.int (0 : Int32))) ∧ (Fr n0 LL) ∧ (hh = hE)
set_option maxRecDepth 65536 in
set_option maxHeartbeats 40000000 in
theorem rm_lns (la : Launch) (Z : State) (a0 : Array Value) (hw : ∀ d ∈ tables_1, d.before a0 Z = true) (ws : List Jvm.Cond) (a : Addr) (el : Addr) (ke : ClassId) (hE : Heap) (n0 : Nat) (O : Old Z n0 hE) (P0_ : Fld Z hE a "java/util/ImmutableCollections$ListN" "elements" "[Ljava/lang/Object;" (.ref el)) (P1_ : Arv Z hE el ke (.object "java/lang/Object") (0 : Int32) [] .null) :
    MetFree la mn19 (head1 (Jvm.Cond.code mn19 jdk_45_method_3_code 1 (some .int) :: ws) ({ frames := 0, cells := 0, slots := 0, locals := 0 } : Room)) (fun aa UU => aa = #[(.ref a)] ∧ Z.Warmed39 UU.vm ∧ UU.heap = hE) (fun _ _ _ _ _ => True) (fun _ UU oo UV => ∃ vv LL, oo = .returned vv ∧ Q_lns Z a el ke hE n0 vv UV.heap LL ∧ FrameEnd UU oo UV LL ({ frames := 0, cells := 0, slots := 0, locals := 0 } : Room).cells ({ frames := 0, cells := 0, slots := 0, locals := 0 } : Room).slots) := by
  refine MetFree.of_bodySF (plainFor_of_name pn_java_util_ImmutableCollections_ListN) hisR ?_
  intro pg ev sb mi gs below me cd s₁ Bd hml0 hPt hKt
  obtain ⟨rfl, hZ, hh⟩ := hPt
  have hx := Bd.exec
  have hby := Bd.bytes
  have hml : cd.maxLocals = 1 := hml0
  have hown : sb.vm.findClass "java/util/ImmutableCollections$ListN" = some mi.cls := findClass_of_methodNamed Bd.named
  have hnm := (name_of_methodNamed Bd.named Bd.method).1
  have X0 : Stand pg la ev ({ frames := 0, cells := 0, slots := 0, locals := 0 } : Room) sb mi #[(.ref a)] below me cd s₁ [] 0 0 := Stand.of_body Bd
  have eE : s₁.heap = hE := by rw [← hh, Bd.state]; rfl
  have N0 := Fr.nil n0
  have pre0 : ∀ tt, Steps pg.tables ev below (s₁.setTop (mkF mi 0 #[.val (.ref a)] [])) tt → Steps pg.tables ev below (s₁.setTop (entryFrame mi #[(.ref a)] 1)) tt := fun tt kk => castTop (ef_lns mi a) kk
  obtain ⟨T101, X101, e101, st101⟩ := getF X0 hx hZ hown (host := "") (Or.inl (wd103 hw)) Via.refl eE P0_ (g := (mkF mi 1 #[.val (.ref a)] [(.ref a)])) rfl rfl (hb hby d_jdk_45_method_3_code_1)
  obtain ⟨cl102, Ar102, -, Sz102, Nn102, -, -⟩ := id P1_
  obtain ⟨fs, hr, hrun, hended, hW, hsame⟩ := X101.leave (v := some (.int (0 : Int32))) (fun hq => by rw [Bd.returns] at hq; cases hq)
  refine ⟨_, _, pre0 _ ?_, hrun, hended, _, _, rfl, ?_, ⟨_, rfl⟩, hW, hsame.mono (by decide) (by decide)⟩
  · show Steps pg.tables ev below (s₁.setTop (mkF mi 0 #[.val (.ref a)] [])) _
    refine XS.aloadN X0.here hx rfl (hb hby d_jdk_45_method_3_code_0) rfl rfl ?_
    show Steps pg.tables ev below (s₁.setTop (mkF mi 1 #[.val (.ref a)] [(.ref a)])) _
    refine st101 _ ?_
    show Steps pg.tables ev below (T101.setTop (mkF mi 4 #[.val (.ref a)] [(.ref el)])) _
    refine X101.arraylength hx (cell := cl102) (by rw [e101]; exact Ar102.1) (State.isArrayOf_alike hZ.alike Ar102.2.1) (g := (mkF mi 4 #[.val (.ref a)] [(.ref el)])) rfl (rest := []) rfl (hb hby d_jdk_45_method_3_code_4) _ ?_
    rw [len_of Sz102 Nn102]
    show Steps pg.tables ev below (T101.setTop (mkF mi 5 #[.val (.ref a)] [(.int (0 : Int32))])) _
    exact retI X101 hx Bd.returns (hb hby d_jdk_45_method_3_code_5) hr
  · show Q_lns Z a el ke hE n0 _ T101.heap _
    rw [e101]
    exact ⟨rfl, N0, rfl⟩
theorem d_jdk_53_method_1_code_0 : decode jdk_53_method_1_code 0 = .ok (.aload_n 0, 1) := by decide +kernel
theorem d_jdk_53_method_1_code_1 : decode jdk_53_method_1_code 1 = .ok (.invokespecial 1, 3) := by decide +kernel
theorem d_jdk_53_method_1_code_4 : decode jdk_53_method_1_code 4 = .ok (.aload_n 0, 1) := by decide +kernel
theorem d_jdk_53_method_1_code_5 : decode jdk_53_method_1_code 5 = .ok (.aload_n 1, 1) := by decide +kernel
theorem d_jdk_53_method_1_code_6 : decode jdk_53_method_1_code 6 = .ok (.putfield 7, 3) := by decide +kernel
theorem d_jdk_53_method_1_code_9 : decode jdk_53_method_1_code 9 = .ok (.aload_n 0, 1) := by decide +kernel
theorem d_jdk_53_method_1_code_10 : decode jdk_53_method_1_code 10 = .ok (.iload_n 2, 1) := by decide +kernel
theorem d_jdk_53_method_1_code_11 : decode jdk_53_method_1_code 11 = .ok (.putfield 13, 3) := by decide +kernel
theorem d_jdk_53_method_1_code_14 : decode jdk_53_method_1_code 14 = .ok (.aload_n 0, 1) := by decide +kernel
theorem d_jdk_53_method_1_code_15 : decode jdk_53_method_1_code 15 = .ok (.iconst 0, 1) := by decide +kernel
theorem d_jdk_53_method_1_code_16 : decode jdk_53_method_1_code 16 = .ok (.putfield 17, 3) := by decide +kernel
theorem d_jdk_53_method_1_code_19 : decode jdk_53_method_1_code 19 = .ok (.aload_n 0, 1) := by decide +kernel
theorem d_jdk_53_method_1_code_20 : decode jdk_53_method_1_code 20 = .ok (.iconst 0, 1) := by decide +kernel
theorem d_jdk_53_method_1_code_21 : decode jdk_53_method_1_code 21 = .ok (.putfield 20, 3) := by decide +kernel
theorem d_jdk_53_method_1_code_24 : decode jdk_53_method_1_code 24 = .ok (.return_, 1) := by decide +kernel
theorem pn_java_util_ImmutableCollections_ListItr : plainName "java/util/ImmutableCollections$ListItr" = true := by first | (simp [plainName, overriddenIn]; done) | decide +kernel
theorem ef_lii (mi : MethodId) (a : Addr) (u : Addr) : entryFrame mi #[(.ref a), (.ref u), (.int (0 : Int32))] 3 = mkF mi 0 #[.val (.ref a), .val (.ref u), .val (.int (0 : Int32))] [] := by first | (simp [entryFrame, mkF, argsToLocals, Value.category]; done) | rfl
def Q_lii (Z : State) (a : Addr) (u : Addr) (hE : Heap) (n0 : Nat) (vv : Option Value) (hh : Heap) (LL : List Loc) : Prop := (vv = none) ∧ (Fr n0 LL) ∧ (Keep hE hh [a]) ∧ (Exa Z hh a "java/util/ImmutableCollections$ListItr") ∧ (Fld Z hh a "java/util/ImmutableCollections$ListItr" "size" "I" (.int (0 : Int32))) ∧ (Fld Z hh a "java/util/ImmutableCollections$ListItr" "cursor" "I" (.int (0 : Int32)))
set_option maxRecDepth 65536 in
set_option maxHeartbeats 40000000 in
theorem rm_lii (la : Launch) (Z : State) (a0 : Array Value) (hw : ∀ d ∈ tables_1, d.before a0 Z = true) (ws : List Jvm.Cond) (a : Addr) (u : Addr) (hE : Heap) (n0 : Nat) (O : Old Z n0 hE) (P0_ : Exa Z hE a "java/util/ImmutableCollections$ListItr") (P1_ : Fld Z hE a "java/util/ImmutableCollections$ListItr" "list" "Ljava/util/List;" .null) (P2_ : Fld Z hE a "java/util/ImmutableCollections$ListItr" "size" "I" (.int (0 : Int32))) (P3_ : Fld Z hE a "java/util/ImmutableCollections$ListItr" "cursor" "I" (.int (0 : Int32))) (P4_ : Fld Z hE a "java/util/ImmutableCollections$ListItr" "isListIterator" "Z" (.int (0 : Int32))) (g_a : n0 ≤ a) :
    MetFree la mn20 (head1 (Jvm.Cond.code mn20 jdk_53_method_1_code 3 none :: ws) ({ frames := 1, cells := 0, slots := 0, locals := 12 } : Room)) (fun aa UU => aa = #[(.ref a), (.ref u), (.int (0 : Int32))] ∧ Z.Warmed39 UU.vm ∧ UU.heap = hE) (fun _ _ _ _ _ => True) (fun _ UU oo UV => ∃ vv LL, oo = .returned vv ∧ Q_lii Z a u hE n0 vv UV.heap LL ∧ FrameEnd UU oo UV LL ({ frames := 1, cells := 0, slots := 0, locals := 12 } : Room).cells ({ frames := 1, cells := 0, slots := 0, locals := 12 } : Room).slots) := by
  refine MetFree.of_bodySF (plainFor_of_name pn_java_util_ImmutableCollections_ListItr) hisR ?_
  intro pg ev sb mi gs below me cd s₁ Bd hml0 hPt hKt
  obtain ⟨rfl, hZ, hh⟩ := hPt
  have hx := Bd.exec
  have hby := Bd.bytes
  have hml : cd.maxLocals = 3 := hml0
  have hown : sb.vm.findClass "java/util/ImmutableCollections$ListItr" = some mi.cls := findClass_of_methodNamed Bd.named
  have hnm := (name_of_methodNamed Bd.named Bd.method).1
  have X0 : Stand pg la ev ({ frames := 1, cells := 0, slots := 0, locals := 12 } : Room) sb mi #[(.ref a), (.ref u), (.int (0 : Int32))] below me cd s₁ [] 0 0 := Stand.of_body Bd
  have eE : s₁.heap = hE := by rw [← hh, Bd.state]; rfl
  have N0 := Fr.nil n0
  have pre0 : ∀ tt, Steps pg.tables ev below (s₁.setTop (mkF mi 0 #[.val (.ref a), .val (.ref u), .val (.int (0 : Int32))] [])) tt → Steps pg.tables ev below (s₁.setTop (entryFrame mi #[(.ref a), (.ref u), (.int (0 : Int32))] 3)) tt := fun tt kk => castTop (ef_lii mi a u) kk
  obtain ⟨T101, X101, e101, st101⟩ := initO X0 hx hZ hown (wd109 hw) (wd20 hw) (wd21 hw) eE (g := (mkF mi 1 #[.val (.ref a), .val (.ref u), .val (.int (0 : Int32))] [(.ref a)])) rfl (by rw [hml]; rfl) rfl (hb hby d_jdk_53_method_1_code_1) (by decide) (W := 0) (by show 2 * 0 + _ ≤ _; exact Nat.le_of_eq rfl) (by decide)
  obtain ⟨T102, h102, X102, e102, W102, st102⟩ := putF X101 hx hZ hown (host := "") (Or.inl (wd110 hw)) Via.refl e101 P1_ P0_ (Or.inr ⟨(wd111 hw), rfl, hnm⟩) (wd94 hw) (ty := (.object "java/util/List")) (by decide) rfl rfl (g := (mkF mi 6 #[.val (.ref a), .val (.ref u), .val (.int (0 : Int32))] [(.ref u), (.ref a)])) rfl rfl (hb hby d_jdk_53_method_1_code_6)
  have N102 := Fr.snoc X102 N0 g_a
  have f103 : Fld Z h102 a "java/util/ImmutableCollections$ListItr" "list" "Ljava/util/List;" (.ref u) := P1_.same W102
  have f104 : Exa Z h102 a "java/util/ImmutableCollections$ListItr" := (P0_.keep (Keep.of_wr W102))
  have f105 : Fld Z h102 a "java/util/ImmutableCollections$ListItr" "size" "I" (.int (0 : Int32)) := (P2_.other W102 (Or.inr (slot_ne (Or.inr (wd113 hw)) (Or.inr (wd111 hw)) (by decide) (t := .int) (t' := (.object "java/util/List")) (by decide) (by decide))))
  obtain ⟨T106, h106, X106, e106, W106, st106⟩ := putF X102 hx hZ hown (host := "") (Or.inl (wd112 hw)) Via.refl e102 f105 f104 (Or.inr ⟨(wd113 hw), rfl, hnm⟩) (wd94 hw) (ty := .int) (by decide) rfl rfl (g := (mkF mi 11 #[.val (.ref a), .val (.ref u), .val (.int (0 : Int32))] [(.int (0 : Int32)), (.ref a)])) rfl rfl (hb hby d_jdk_53_method_1_code_11)
  have N106 := Fr.snoc X106 N102 g_a
  have f107 : Fld Z h106 a "java/util/ImmutableCollections$ListItr" "size" "I" (.int (0 : Int32)) := f105.same W106
  have f108 : Exa Z h106 a "java/util/ImmutableCollections$ListItr" := (f104.keep (Keep.of_wr W106))
  have f109 : Fld Z h106 a "java/util/ImmutableCollections$ListItr" "cursor" "I" (.int (0 : Int32)) := ((P3_.other W102 (Or.inr (slot_ne (Or.inl (wd115 hw)) (Or.inr (wd111 hw)) (by decide) (t := .int) (t' := (.object "java/util/List")) (by decide) (by decide)))).other W106 (Or.inr (slot_ne (Or.inl (wd115 hw)) (Or.inr (wd113 hw)) (by decide) (t := .int) (t' := .int) (by decide) (by decide))))
  obtain ⟨T110, h110, X110, e110, W110, st110⟩ := putF X106 hx hZ hown (host := "") (Or.inl (wd114 hw)) Via.refl e106 f109 f108 (Or.inl (wd115 hw)) (wd94 hw) (ty := .int) (by decide) rfl rfl (g := (mkF mi 16 #[.val (.ref a), .val (.ref u), .val (.int (0 : Int32))] [(.int (0 : Int32)), (.ref a)])) rfl rfl (hb hby d_jdk_53_method_1_code_16)
  have N110 := Fr.snoc X110 N106 g_a
  have f111 : Fld Z h110 a "java/util/ImmutableCollections$ListItr" "cursor" "I" (.int (0 : Int32)) := f109.same W110
  have f112 : Exa Z h110 a "java/util/ImmutableCollections$ListItr" := (f108.keep (Keep.of_wr W110))
  have f113 : Fld Z h110 a "java/util/ImmutableCollections$ListItr" "isListIterator" "Z" (.int (0 : Int32)) := (((P4_.other W102 (Or.inr (slot_ne (Or.inr (wd117 hw)) (Or.inr (wd111 hw)) (by decide) (t := .boolean) (t' := (.object "java/util/List")) (by decide) (by decide)))).other W106 (Or.inr (slot_ne (Or.inr (wd117 hw)) (Or.inr (wd113 hw)) (by decide) (t := .boolean) (t' := .int) (by decide) (by decide)))).other W110 (Or.inr (slot_ne (Or.inr (wd117 hw)) (Or.inl (wd115 hw)) (by decide) (t := .boolean) (t' := .int) (by decide) (by decide))))
  obtain ⟨T114, h114, X114, e114, W114, st114⟩ := putFN X110 hx hZ hown (wd116 hw) Via.refl e110 f113 f112 (Or.inr ⟨(wd117 hw), rfl, hnm⟩) (wd94 hw) (ty := .boolean) (v' := (.int (0 : Int32))) (by decide) rfl rfl (g := (mkF mi 21 #[.val (.ref a), .val (.ref u), .val (.int (0 : Int32))] [(.int (0 : Int32)), (.ref a)])) rfl rfl (hb hby d_jdk_53_method_1_code_21)
  have N114 := Fr.snoc X114 N110 g_a
  have f115 : Fld Z h114 a "java/util/ImmutableCollections$ListItr" "isListIterator" "Z" (.int (0 : Int32)) := f113.same W114
  have f116 : Exa Z h114 a "java/util/ImmutableCollections$ListItr" := (f112.keep (Keep.of_wr W114))
  have f117 : Fld Z h114 a "java/util/ImmutableCollections$ListItr" "size" "I" (.int (0 : Int32)) := ((f107.other W110 (Or.inr (slot_ne (Or.inr (wd113 hw)) (Or.inl (wd115 hw)) (by decide) (t := .int) (t' := .int) (by decide) (by decide)))).other W114 (Or.inr (slot_ne (Or.inr (wd113 hw)) (Or.inr (wd117 hw)) (by decide) (t := .int) (t' := .boolean) (by decide) (by decide))))
  have f118 : Fld Z h114 a "java/util/ImmutableCollections$ListItr" "cursor" "I" (.int (0 : Int32)) := (f111.other W114 (Or.inr (slot_ne (Or.inl (wd115 hw)) (Or.inr (wd117 hw)) (by decide) (t := .int) (t' := .boolean) (by decide) (by decide))))
  obtain ⟨fs, hr, hrun, hended, hW, hsame⟩ := X114.leave (v := none) (fun _ => rfl)
  refine ⟨_, _, pre0 _ ?_, hrun, hended, _, _, rfl, ?_, ⟨_, rfl⟩, hW, hsame.mono (by decide) (by decide)⟩
  · show Steps pg.tables ev below (s₁.setTop (mkF mi 0 #[.val (.ref a), .val (.ref u), .val (.int (0 : Int32))] [])) _
    refine XS.aloadN X0.here hx rfl (hb hby d_jdk_53_method_1_code_0) rfl rfl ?_
    show Steps pg.tables ev below (s₁.setTop (mkF mi 1 #[.val (.ref a), .val (.ref u), .val (.int (0 : Int32))] [(.ref a)])) _
    refine st101 _ ?_
    show Steps pg.tables ev below (T101.setTop (mkF mi 4 #[.val (.ref a), .val (.ref u), .val (.int (0 : Int32))] [])) _
    refine XS.aloadN X101.here hx rfl (hb hby d_jdk_53_method_1_code_4) rfl rfl ?_
    show Steps pg.tables ev below (T101.setTop (mkF mi 5 #[.val (.ref a), .val (.ref u), .val (.int (0 : Int32))] [(.ref a)])) _
    refine XS.aloadN X101.here hx rfl (hb hby d_jdk_53_method_1_code_5) rfl rfl ?_
    show Steps pg.tables ev below (T101.setTop (mkF mi 6 #[.val (.ref a), .val (.ref u), .val (.int (0 : Int32))] [(.ref u), (.ref a)])) _
    refine st102 _ ?_
    show Steps pg.tables ev below (T102.setTop (mkF mi 9 #[.val (.ref a), .val (.ref u), .val (.int (0 : Int32))] [])) _
    refine XS.aloadN X102.here hx rfl (hb hby d_jdk_53_method_1_code_9) rfl rfl ?_
    show Steps pg.tables ev below (T102.setTop (mkF mi 10 #[.val (.ref a), .val (.ref u), .val (.int (0 : Int32))] [(.ref a)])) _
    refine XS.iloadN X102.here hx rfl (hb hby d_jdk_53_method_1_code_10) rfl ?_
    show Steps pg.tables ev below (T102.setTop (mkF mi 11 #[.val (.ref a), .val (.ref u), .val (.int (0 : Int32))] [(.int (0 : Int32)), (.ref a)])) _
    refine st106 _ ?_
    show Steps pg.tables ev below (T106.setTop (mkF mi 14 #[.val (.ref a), .val (.ref u), .val (.int (0 : Int32))] [])) _
    refine XS.aloadN X106.here hx rfl (hb hby d_jdk_53_method_1_code_14) rfl rfl ?_
    show Steps pg.tables ev below (T106.setTop (mkF mi 15 #[.val (.ref a), .val (.ref u), .val (.int (0 : Int32))] [(.ref a)])) _
    refine XS.iconst X106.here hx rfl (hb hby d_jdk_53_method_1_code_15) ?_
    show Steps pg.tables ev below (T106.setTop (mkF mi 16 #[.val (.ref a), .val (.ref u), .val (.int (0 : Int32))] [(.int (0 : Int32)), (.ref a)])) _
    refine st110 _ ?_
    show Steps pg.tables ev below (T110.setTop (mkF mi 19 #[.val (.ref a), .val (.ref u), .val (.int (0 : Int32))] [])) _
    refine XS.aloadN X110.here hx rfl (hb hby d_jdk_53_method_1_code_19) rfl rfl ?_
    show Steps pg.tables ev below (T110.setTop (mkF mi 20 #[.val (.ref a), .val (.ref u), .val (.int (0 : Int32))] [(.ref a)])) _
    refine XS.iconst X110.here hx rfl (hb hby d_jdk_53_method_1_code_20) ?_
    show Steps pg.tables ev below (T110.setTop (mkF mi 21 #[.val (.ref a), .val (.ref u), .val (.int (0 : Int32))] [(.int (0 : Int32)), (.ref a)])) _
    refine st114 _ ?_
    show Steps pg.tables ev below (T114.setTop (mkF mi 24 #[.val (.ref a), .val (.ref u), .val (.int (0 : Int32))] [])) _
    exact X114.returnOut hx Bd.returns (hb hby d_jdk_53_method_1_code_24) hr
  · show Q_lii Z a u hE n0 _ T114.heap _
    rw [e114]
    exact ⟨rfl, N114, (((((Keep.refl hE [a]).trans (Keep.of_wr W102) (allS (Or.inl (List.mem_of_getElem? (i := 0) rfl)) all0)).trans (Keep.of_wr W106) (allS (Or.inl (List.mem_of_getElem? (i := 0) rfl)) all0)).trans (Keep.of_wr W110) (allS (Or.inl (List.mem_of_getElem? (i := 0) rfl)) all0)).trans (Keep.of_wr W114) (allS (Or.inl (List.mem_of_getElem? (i := 0) rfl)) all0)), f116, f117, f118⟩
theorem d_jdk_46_method_10_code_0 : decode jdk_46_method_10_code 0 = .ok (.new 61, 3) := by decide +kernel
theorem d_jdk_46_method_10_code_3 : decode jdk_46_method_10_code 3 = .ok (.dup, 1) := by decide +kernel
theorem d_jdk_46_method_10_code_4 : decode jdk_46_method_10_code 4 = .ok (.aload_n 0, 1) := by decide +kernel
theorem d_jdk_46_method_10_code_5 : decode jdk_46_method_10_code 5 = .ok (.aload_n 0, 1) := by decide +kernel
theorem d_jdk_46_method_10_code_6 : decode jdk_46_method_10_code 6 = .ok (.invokevirtual 13, 3) := by decide +kernel
theorem d_jdk_46_method_10_code_9 : decode jdk_46_method_10_code 9 = .ok (.invokespecial 63, 3) := by decide +kernel
theorem d_jdk_46_method_10_code_12 : decode jdk_46_method_10_code 12 = .ok (.areturn, 1) := by decide +kernel
theorem pd_12 : parseMethodDescriptor "(Ljava/util/List;I)V" = some ⟨[(.object "java/util/List"), .int], none⟩ := by decide +kernel
theorem pn_java_util_ImmutableCollections_AbstractImmutableList : plainName "java/util/ImmutableCollections$AbstractImmutableList" = true := by first | (simp [plainName, overriddenIn]; done) | decide +kernel
theorem ef_ite (mi : MethodId) (a : Addr) : entryFrame mi #[(.ref a)] 1 = mkF mi 0 #[.val (.ref a)] [] := by first | (simp [entryFrame, mkF, argsToLocals, Value.category]; done) | rfl
def Q_ite (Z : State) (a : Addr) (el : Addr) (ke : ClassId) (hE : Heap) (n0 : Nat) (vv : Option Value) (hh : Heap) (LL : List Loc) : Prop := ∃ b : Addr, (vv = some (.ref b)) ∧ (Fr n0 LL) ∧ (Keep hE hh []) ∧ (hE.size ≤ b) ∧ (Exa Z hh b "java/util/ImmutableCollections$ListItr") ∧ (Fld Z hh b "java/util/ImmutableCollections$ListItr" "size" "I" (.int (0 : Int32))) ∧ (Fld Z hh b "java/util/ImmutableCollections$ListItr" "cursor" "I" (.int (0 : Int32)))
set_option maxRecDepth 65536 in
set_option maxHeartbeats 40000000 in
theorem rm_ite (la : Launch) (Z : State) (a0 : Array Value) (hw : ∀ d ∈ tables_1, d.before a0 Z = true) (ws : List Jvm.Cond) (a : Addr) (el : Addr) (ke : ClassId) (hE : Heap) (n0 : Nat) (O : Old Z n0 hE) (D0_ : Exa Z Z.heap a "java/util/ImmutableCollections$ListN") (D1_ : Fld Z Z.heap a "java/util/ImmutableCollections$ListN" "elements" "[Ljava/lang/Object;" (.ref el)) (D2_ : Arv Z Z.heap el ke (.object "java/lang/Object") (0 : Int32) [] .null) :
    MetFree la mn22 (head1 (Jvm.Cond.code mn22 jdk_46_method_10_code 1 (some (.object "java/util/Iterator")) :: ws) ({ frames := 2, cells := 1, slots := 4, locals := 27 } : Room)) (fun aa UU => aa = #[(.ref a)] ∧ Z.Warmed39 UU.vm ∧ UU.heap = hE) (fun _ _ _ _ _ => True) (fun _ UU oo UV => ∃ vv LL, oo = .returned vv ∧ Q_ite Z a el ke hE n0 vv UV.heap LL ∧ FrameEnd UU oo UV LL ({ frames := 2, cells := 1, slots := 4, locals := 27 } : Room).cells ({ frames := 2, cells := 1, slots := 4, locals := 27 } : Room).slots) := by
  refine MetFree.of_bodySF (plainFor_of_name pn_java_util_ImmutableCollections_AbstractImmutableList) hisR ?_
  intro pg ev sb mi gs below me cd s₁ Bd hml0 hPt hKt
  obtain ⟨rfl, hZ, hh⟩ := hPt
  have hx := Bd.exec
  have hby := Bd.bytes
  have hml : cd.maxLocals = 1 := hml0
  have hown : sb.vm.findClass "java/util/ImmutableCollections$AbstractImmutableList" = some mi.cls := findClass_of_methodNamed Bd.named
  have hnm := (name_of_methodNamed Bd.named Bd.method).1
  have X0 : Stand pg la ev ({ frames := 2, cells := 1, slots := 4, locals := 27 } : Room) sb mi #[(.ref a)] below me cd s₁ [] 0 0 := Stand.of_body Bd
  have eE : s₁.heap = hE := by rw [← hh, Bd.state]; rfl
  have N0 := Fr.nil n0
  have pre0 : ∀ tt, Steps pg.tables ev below (s₁.setTop (mkF mi 0 #[.val (.ref a)] [])) tt → Steps pg.tables ev below (s₁.setTop (entryFrame mi #[(.ref a)] 1)) tt := fun tt kk => castTop (ef_ite mi a) kk
  obtain ⟨T101, h101, X101, e101, E101, A101, D101, -, st101⟩ := newO X0 hx hZ hown (wd93 hw) (wd94 hw) (wd95 hw) eE (g := (mkF mi 0 #[.val (.ref a)] [])) rfl (hb hby d_jdk_46_method_10_code_0) (by decide) (by decide)
  obtain ⟨b101, q101⟩ : ∃ z, z = hE.size := ⟨_, rfl⟩
  rw [← q101] at A101 D101 st101
  have f102 : Fld Z h101 b101 "java/util/ImmutableCollections$ListItr" "list" "Ljava/util/List;" .null := D101 (Or.inr (wd111 hw)) (ty := (.object "java/util/List")) (by decide)
  have f103 : Fld Z h101 b101 "java/util/ImmutableCollections$ListItr" "size" "I" (.int (0 : Int32)) := D101 (Or.inr (wd113 hw)) (ty := .int) (by decide)
  have f104 : Fld Z h101 b101 "java/util/ImmutableCollections$ListItr" "cursor" "I" (.int (0 : Int32)) := D101 (Or.inl (wd115 hw)) (ty := .int) (by decide)
  have f105 : Fld Z h101 b101 "java/util/ImmutableCollections$ListItr" "isListIterator" "Z" (.int (0 : Int32)) := D101 (Or.inr (wd117 hw)) (ty := .boolean) (by decide)
  have O107 : Old Z n0 h101 := (O.ext E101)
  obtain ⟨cq108, kq108, q108a, q108b, q108c⟩ := isOf hZ e101 (D0_.ext O107.2)
  obtain ⟨v108, _, ⟨T108, L108, k108, n108⟩, -, X108, ⟨Lc108, hQ108, l108, y108, z108⟩, st108⟩ := X101.virtualBackUp hx (owner := "java/util/AbstractCollection") (x := mn21) (y := mn19) hown (mvT hZ (wd96 hw)) (mvT hZ (wd97 hw)) (mvT hZ (wd98 hw)) (by decide) (mvT hZ (wd99 hw)) (mvT hZ (wd100 hw)) (backOf (W := 3) (rm_lns la Z a0 hw [] a el ke h101 n0 O107 (D1_.ext O107.2) (D2_.ext O107.2)) hZ (wd102 hw) (wd101 hw) (by decide) (by decide)) q108a q108c (g := (mkF mi 6 #[.val (.ref a)] [(.ref a), (.ref a), (.ref b101), (.ref b101)])) rfl (by rw [hml]; rfl) (Steps.refl _) (argsL := []) (rest := [(.ref a), (.ref b101), (.ref b101)]) (lenOf pd_10 rfl) rfl (by show 2 * 0 + _ ≤ _; exact Nat.le_of_eq rfl) (hb hby d_jdk_46_method_10_code_6) (fun _ _ => ⟨rfl, e101, (by decide : 1 + 0 ≤ _), (by decide : 4 + 0 ≤ _)⟩)
  dsimp only [Pt.U, Pt.locs, Pt.cells, Pt.slots] at X108 l108 y108 z108 st108 hQ108
  subst l108 y108 z108
  obtain ⟨rfl, Nq108, ek108⟩ := hQ108
  have N108 := Fr.app N0 Nq108
  have g_b101 : n0 ≤ b101 := Nat.le_trans (Nat.le_trans (Nat.le_of_eq O.1.symm) O.2.1) (Nat.le_of_eq q101.symm)
  obtain ⟨v109, _, ⟨T109, L109, k109, n109⟩, -, X109, ⟨Lc109, hQ109, l109, y109, z109⟩, st109⟩ := X108.specialBack hx (y := mn20) rfl hown (mvT hZ (wd105 hw)) (mvT hZ (wd106 hw)) (mvT hZ (wd108 hw)) (by decide) (backOf (W := 1) (rm_lii la Z a0 hw [] b101 a h101 n0 O107 A101 f102 f103 f104 f105 g_b101) hZ (wd108 hw) (wd95 hw) (by decide) (by decide)) (g := (mkF mi 9 #[.val (.ref a)] [(.int (0 : Int32)), (.ref a), (.ref b101), (.ref b101)])) rfl (by rw [hml]; rfl) (Steps.refl _) (a := b101) (argsL := [(.ref a), (.int (0 : Int32))]) (rest := [(.ref b101)]) (lenOf pd_12 rfl) rfl (by show 2 * 0 + _ ≤ _; exact Nat.le_of_eq rfl) (hb hby d_jdk_46_method_10_code_9) (fun _ _ => ⟨rfl, ek108, (by decide : 1 + 0 ≤ _), (by decide : 4 + 0 ≤ _)⟩)
  dsimp only [Pt.U, Pt.locs, Pt.cells, Pt.slots] at X109 l109 y109 z109 st109 hQ109
  subst l109 y109 z109
  obtain ⟨rfl, Nq109, Kq109, r109_0, r109_1, r109_2⟩ := hQ109
  have N109 := Fr.app N108 Nq109
  obtain ⟨fs, hr, hrun, hended, hW, hsame⟩ := X109.leave (v := some (.ref b101)) (fun hq => by rw [Bd.returns] at hq; cases hq)
  refine ⟨_, _, pre0 _ ?_, hrun, hended, _, _, rfl, ?_, ⟨_, rfl⟩, hW, hsame.mono (by decide) (by decide)⟩
  · show Steps pg.tables ev below (s₁.setTop (mkF mi 0 #[.val (.ref a)] [])) _
    refine st101 _ ?_
    show Steps pg.tables ev below (T101.setTop (mkF mi 3 #[.val (.ref a)] [(.ref b101)])) _
    refine XS.dup X101.here hx rfl (hb hby d_jdk_46_method_10_code_3) rfl rfl ?_
    show Steps pg.tables ev below (T101.setTop (mkF mi 4 #[.val (.ref a)] [(.ref b101), (.ref b101)])) _
    refine XS.aloadN X101.here hx rfl (hb hby d_jdk_46_method_10_code_4) rfl rfl ?_
    show Steps pg.tables ev below (T101.setTop (mkF mi 5 #[.val (.ref a)] [(.ref a), (.ref b101), (.ref b101)])) _
    refine XS.aloadN X101.here hx rfl (hb hby d_jdk_46_method_10_code_5) rfl rfl ?_
    show Steps pg.tables ev below (T101.setTop (mkF mi 6 #[.val (.ref a)] [(.ref a), (.ref a), (.ref b101), (.ref b101)])) _
    refine st108.trans ?_
    show Steps pg.tables ev below (T108.setTop (mkF mi 9 #[.val (.ref a)] [(.int (0 : Int32)), (.ref a), (.ref b101), (.ref b101)])) _
    refine st109.trans ?_
    show Steps pg.tables ev below (T109.setTop (mkF mi 12 #[.val (.ref a)] [(.ref b101)])) _
    jvm_step X109.here [X109.here.top, hx, (hb hby d_jdk_46_method_10_code_12), X109.method', Bd.returns, Value.isRef, FieldType.isReference]
    first | (intro acts; rw [hr _ acts rfl rfl rfl]) | rw [hr _ _ rfl rfl rfl]
    exact Steps.refl _
  · show Q_ite Z a el ke hE n0 _ T109.heap _
    exact ⟨b101, rfl, N109, (((Keep.refl hE []).ext E101).trans Kq109 (allS (Or.inr (Nat.le_of_eq q101.symm)) all0)), (Nat.le_of_eq q101.symm), r109_0, r109_1, r109_2⟩
theorem d_jdk_53_method_3_code_0 : decode jdk_53_method_3_code 0 = .ok (.aload_n 0, 1) := by decide +kernel
theorem d_jdk_53_method_3_code_1 : decode jdk_53_method_3_code 1 = .ok (.getfield 17, 3) := by decide +kernel
theorem d_jdk_53_method_3_code_4 : decode jdk_53_method_3_code 4 = .ok (.aload_n 0, 1) := by decide +kernel
theorem d_jdk_53_method_3_code_5 : decode jdk_53_method_3_code 5 = .ok (.getfield 13, 3) := by decide +kernel
theorem d_jdk_53_method_3_code_8 : decode jdk_53_method_3_code 8 = .ok (.if_icmp .eq 7, 3) := by decide +kernel
theorem d_jdk_53_method_3_code_15 : decode jdk_53_method_3_code 15 = .ok (.iconst 0, 1) := by decide +kernel
theorem d_jdk_53_method_3_code_16 : decode jdk_53_method_3_code 16 = .ok (.ireturn, 1) := by decide +kernel
theorem ef_hn (mi : MethodId) (a : Addr) : entryFrame mi #[(.ref a)] 1 = mkF mi 0 #[.val (.ref a)] [] := by first | (simp [entryFrame, mkF, argsToLocals, Value.category]; done) | rfl
def Q_hn (Z : State) (a : Addr) (hE : Heap) (n0 : Nat) (vv : Option Value) (hh : Heap) (LL : List Loc) : Prop := (vv = some (.int (0 : Int32))) ∧ (Fr n0 LL) ∧ (hh = hE)
set_option maxRecDepth 65536 in
set_option maxHeartbeats 40000000 in
theorem rm_hn (la : Launch) (Z : State) (a0 : Array Value) (hw : ∀ d ∈ tables_1, d.before a0 Z = true) (ws : List Jvm.Cond) (a : Addr) (hE : Heap) (n0 : Nat) (O : Old Z n0 hE) (P0_ : Fld Z hE a "java/util/ImmutableCollections$ListItr" "size" "I" (.int (0 : Int32))) (P1_ : Fld Z hE a "java/util/ImmutableCollections$ListItr" "cursor" "I" (.int (0 : Int32))) :
    MetFree la mn23 (head1 (Jvm.Cond.code mn23 jdk_53_method_3_code 1 (some .boolean) :: ws) ({ frames := 0, cells := 0, slots := 0, locals := 0 } : Room)) (fun aa UU => aa = #[(.ref a)] ∧ Z.Warmed39 UU.vm ∧ UU.heap = hE) (fun _ _ _ _ _ => True) (fun _ UU oo UV => ∃ vv LL, oo = .returned vv ∧ Q_hn Z a hE n0 vv UV.heap LL ∧ FrameEnd UU oo UV LL ({ frames := 0, cells := 0, slots := 0, locals := 0 } : Room).cells ({ frames := 0, cells := 0, slots := 0, locals := 0 } : Room).slots) := by
  refine MetFree.of_bodySF (plainFor_of_name pn_java_util_ImmutableCollections_ListItr) hisR ?_
  intro pg ev sb mi gs below me cd s₁ Bd hml0 hPt hKt
  obtain ⟨rfl, hZ, hh⟩ := hPt
  have hx := Bd.exec
  have hby := Bd.bytes
  have hml : cd.maxLocals = 1 := hml0
  have hown : sb.vm.findClass "java/util/ImmutableCollections$ListItr" = some mi.cls := findClass_of_methodNamed Bd.named
  have hnm := (name_of_methodNamed Bd.named Bd.method).1
  have X0 : Stand pg la ev ({ frames := 0, cells := 0, slots := 0, locals := 0 } : Room) sb mi #[(.ref a)] below me cd s₁ [] 0 0 := Stand.of_body Bd
  have eE : s₁.heap = hE := by rw [← hh, Bd.state]; rfl
  have N0 := Fr.nil n0
  have pre0 : ∀ tt, Steps pg.tables ev below (s₁.setTop (mkF mi 0 #[.val (.ref a)] [])) tt → Steps pg.tables ev below (s₁.setTop (entryFrame mi #[(.ref a)] 1)) tt := fun tt kk => castTop (ef_hn mi a) kk
  obtain ⟨T101, X101, e101, st101⟩ := getF X0 hx hZ hown (host := "") (Or.inl (wd114 hw)) Via.refl eE P1_ (g := (mkF mi 1 #[.val (.ref a)] [(.ref a)])) rfl rfl (hb hby d_jdk_53_method_3_code_1)
  obtain ⟨T102, X102, e102, st102⟩ := getF X101 hx hZ hown (host := "") (Or.inl (wd112 hw)) Via.refl e101 P0_ (g := (mkF mi 5 #[.val (.ref a)] [(.ref a), (.int (0 : Int32))])) rfl rfl (hb hby d_jdk_53_method_3_code_5)
  obtain ⟨fs, hr, hrun, hended, hW, hsame⟩ := X102.leave (v := some (.int (0 : Int32))) (fun hq => by rw [Bd.returns] at hq; cases hq)
  refine ⟨_, _, pre0 _ ?_, hrun, hended, _, _, rfl, ?_, ⟨_, rfl⟩, hW, hsame.mono (by decide) (by decide)⟩
  · show Steps pg.tables ev below (s₁.setTop (mkF mi 0 #[.val (.ref a)] [])) _
    refine XS.aloadN X0.here hx rfl (hb hby d_jdk_53_method_3_code_0) rfl rfl ?_
    show Steps pg.tables ev below (s₁.setTop (mkF mi 1 #[.val (.ref a)] [(.ref a)])) _
    refine st101 _ ?_
    show Steps pg.tables ev below (T101.setTop (mkF mi 4 #[.val (.ref a)] [(.int (0 : Int32))])) _
    refine XS.aloadN X101.here hx rfl (hb hby d_jdk_53_method_3_code_4) rfl rfl ?_
    show Steps pg.tables ev below (T101.setTop (mkF mi 5 #[.val (.ref a)] [(.ref a), (.int (0 : Int32))])) _
    refine st102 _ ?_
    show Steps pg.tables ev below (T102.setTop (mkF mi 8 #[.val (.ref a)] [(.int (0 : Int32)), (.int (0 : Int32))])) _
    refine XS.icmpYes X102.here hx rfl (pc0 := 8) (pc' := 15) rfl (hb hby d_jdk_53_method_3_code_8) rfl (teq (rfl : (0 : Int32) = (0 : Int32))).1 (by decide) (by decide) ?_
    show Steps pg.tables ev below (T102.setTop (mkF mi 15 #[.val (.ref a)] [])) _
    refine XS.iconst X102.here hx rfl (hb hby d_jdk_53_method_3_code_15) ?_
    show Steps pg.tables ev below (T102.setTop (mkF mi 16 #[.val (.ref a)] [(.int (0 : Int32))])) _
    exact retN X102 hx (t := .boolean) Bd.returns (by simp) (hb hby d_jdk_53_method_3_code_16) hr
  · show Q_hn Z a hE n0 _ T102.heap _
    rw [e102]
    exact ⟨rfl, N0, rfl⟩
theorem d_prog_19_method_8_code_0 : decode prog_19_method_8_code 0 = .ok (.aload_n 0, 1) := by decide +kernel
theorem d_prog_19_method_8_code_1 : decode prog_19_method_8_code 1 = .ok (.getfield 13, 3) := by decide +kernel
theorem d_prog_19_method_8_code_4 : decode prog_19_method_8_code 4 = .ok (.istore_n 1, 1) := by decide +kernel
theorem d_prog_19_method_8_code_5 : decode prog_19_method_8_code 5 = .ok (.aload_n 0, 1) := by decide +kernel
theorem d_prog_19_method_8_code_6 : decode prog_19_method_8_code 6 = .ok (.getfield 17, 3) := by decide +kernel
theorem d_prog_19_method_8_code_9 : decode prog_19_method_8_code 9 = .ok (.invokeinterface 108 1, 5) := by decide +kernel
theorem d_prog_19_method_8_code_14 : decode prog_19_method_8_code 14 = .ok (.astore_n 2, 1) := by decide +kernel
theorem d_prog_19_method_8_code_15 : decode prog_19_method_8_code 15 = .ok (.aload_n 2, 1) := by decide +kernel
theorem d_prog_19_method_8_code_16 : decode prog_19_method_8_code 16 = .ok (.invokeinterface 112 1, 5) := by decide +kernel
theorem d_prog_19_method_8_code_21 : decode prog_19_method_8_code 21 = .ok (.ifCond .eq 25, 3) := by decide +kernel
theorem d_prog_19_method_8_code_46 : decode prog_19_method_8_code 46 = .ok (.iload_n 1, 1) := by decide +kernel
theorem d_prog_19_method_8_code_47 : decode prog_19_method_8_code 47 = .ok (.ireturn, 1) := by decide +kernel
theorem pd_13 : parseMethodDescriptor "()Ljava/util/Iterator;" = some ⟨[], some (.object "java/util/Iterator")⟩ := by decide +kernel
theorem ef_glp (mi : MethodId) (a : Addr) : entryFrame mi #[(.ref a)] 4 = mkF mi 0 #[.val (.ref a), .unset, .unset, .unset] [] := by first | (simp [entryFrame, mkF, argsToLocals, Value.category]; done) | rfl
def Q_glp (Z : State) (a : Addr) (p : Int32) (w : Addr) (el : Addr) (ke : ClassId) (hE : Heap) (n0 : Nat) (vv : Option Value) (hh : Heap) (LL : List Loc) : Prop := (vv = some (.int p)) ∧ (Fr n0 LL) ∧ (Keep hE hh [])
set_option maxRecDepth 65536 in
set_option maxHeartbeats 40000000 in
theorem rm_glp (la : Launch) (Z : State) (a0 : Array Value) (hw : ∀ d ∈ tables_1, d.before a0 Z = true) (ws : List Jvm.Cond) (a : Addr) (p : Int32) (w : Addr) (el : Addr) (ke : ClassId) (hE : Heap) (n0 : Nat) (O : Old Z n0 hE) (P0_ : Fld Z hE a "com/example/endless_runs/endlessruns/automaton/Label" "proposition" "I" (.int p)) (P1_ : Fld Z hE a "com/example/endless_runs/endlessruns/automaton/Label" "operands" "Ljava/util/List;" (.ref w)) (D0_ : Exa Z Z.heap w "java/util/ImmutableCollections$ListN") (D1_ : Fld Z Z.heap w "java/util/ImmutableCollections$ListN" "elements" "[Ljava/lang/Object;" (.ref el)) (D2_ : Arv Z Z.heap el ke (.object "java/lang/Object") (0 : Int32) [] .null) :
    MetFree la mn26 (head1 (Jvm.Cond.code mn26 prog_19_method_8_code 4 (some .int) :: ws) ({ frames := 3, cells := 1, slots := 4, locals := 39 } : Room)) (fun aa UU => aa = #[(.ref a)] ∧ Z.Warmed39 UU.vm ∧ UU.heap = hE) (fun _ _ _ _ _ => True) (fun _ UU oo UV => ∃ vv LL, oo = .returned vv ∧ Q_glp Z a p w el ke hE n0 vv UV.heap LL ∧ FrameEnd UU oo UV LL ({ frames := 3, cells := 1, slots := 4, locals := 39 } : Room).cells ({ frames := 3, cells := 1, slots := 4, locals := 39 } : Room).slots) := by
  refine MetFree.of_bodySF (plainFor_of_name pn_com_example_endless_runs_endlessruns_automaton_Label) hisR ?_
  intro pg ev sb mi gs below me cd s₁ Bd hml0 hPt hKt
  obtain ⟨rfl, hZ, hh⟩ := hPt
  have hx := Bd.exec
  have hby := Bd.bytes
  have hml : cd.maxLocals = 4 := hml0
  have hown : sb.vm.findClass "com/example/endless_runs/endlessruns/automaton/Label" = some mi.cls := findClass_of_methodNamed Bd.named
  have hnm := (name_of_methodNamed Bd.named Bd.method).1
  have X0 : Stand pg la ev ({ frames := 3, cells := 1, slots := 4, locals := 39 } : Room) sb mi #[(.ref a)] below me cd s₁ [] 0 0 := Stand.of_body Bd
  have eE : s₁.heap = hE := by rw [← hh, Bd.state]; rfl
  have N0 := Fr.nil n0
  have pre0 : ∀ tt, Steps pg.tables ev below (s₁.setTop (mkF mi 0 #[.val (.ref a), .unset, .unset, .unset] [])) tt → Steps pg.tables ev below (s₁.setTop (entryFrame mi #[(.ref a)] 4)) tt := fun tt kk => castTop (ef_glp mi a) kk
  obtain ⟨T101, X101, e101, st101⟩ := getF X0 hx hZ hown (host := "") (Or.inl (wd24 hw)) Via.refl eE P0_ (g := (mkF mi 1 #[.val (.ref a), .unset, .unset, .unset] [(.ref a)])) rfl rfl (hb hby d_prog_19_method_8_code_1)
  obtain ⟨T102, X102, e102, st102⟩ := getF X101 hx hZ hown (host := "") (Or.inl (wd26 hw)) Via.refl e101 P1_ (g := (mkF mi 6 #[.val (.ref a), .val (.int p), .unset, .unset] [(.ref a)])) rfl rfl (hb hby d_prog_19_method_8_code_6)
  obtain ⟨cq103, kq103, q103a, q103b, q103c⟩ := isOf hZ e102 (D0_.ext O.2)
  obtain ⟨v103, _, ⟨T103, L103, k103, n103⟩, -, X103, ⟨Lc103, hQ103, l103, y103, z103⟩, st103⟩ := X102.interfaceBack hx (xi := mn24) (y := mn22) hown (mvT hZ (wd83 hw)) (mvT hZ (wd84 hw)) (mvT hZ (wd85 hw)) (mvT hZ (wd86 hw)) (mvT hZ (wd87 hw)) (mvT hZ (wd88 hw)) (mvT hZ (wd89 hw)) (mvT hZ (wd90 hw)) (by decide) (backOf (W := 0) (rm_ite la Z a0 hw [] w el ke hE n0 O D0_ D1_ D2_) hZ (wd92 hw) (wd91 hw) (by decide) (by decide)) q103a q103b q103c (g := (mkF mi 9 #[.val (.ref a), .val (.int p), .unset, .unset] [(.ref w)])) rfl (by rw [hml]; rfl) (Steps.refl _) (argsL := []) (rest := []) (lenOf pd_13 rfl) rfl (by show 2 * 0 + _ ≤ _; exact Nat.le_of_eq rfl) (hb hby d_prog_19_method_8_code_9) (fun _ _ => ⟨rfl, e102, (by decide : 0 + 1 ≤ _), (by decide : 0 + 4 ≤ _)⟩)
  dsimp only [Pt.U, Pt.locs, Pt.cells, Pt.slots] at X103 l103 y103 z103 st103 hQ103
  subst l103 y103 z103
  obtain ⟨b_103, rfl, Nq103, Kq103, fr_b_103, r103_0, r103_1, r103_2⟩ := hQ103
  have N103 := Fr.app N0 Nq103
  have O104 : Old Z n0 T103.heap := (O.keep Kq103 all0)
  obtain ⟨cq105, kq105, q105a, q105b, q105c⟩ := isOf hZ rfl r103_0
  obtain ⟨v105, _, ⟨T105, L105, k105, n105⟩, -, X105, ⟨Lc105, hQ105, l105, y105, z105⟩, st105⟩ := X103.interfaceBack hx (xi := mn25) (y := mn23) hown (mvT hZ (wd118 hw)) (mvT hZ (wd119 hw)) (mvT hZ (wd120 hw)) (mvT hZ (wd121 hw)) (mvT hZ (wd122 hw)) (mvT hZ (wd123 hw)) (mvT hZ (wd124 hw)) (mvT hZ (wd125 hw)) (by decide) (backOf (W := 0) (rm_hn la Z a0 hw [] b_103 T103.heap n0 O104 r103_1 r103_2) hZ (wd126 hw) (wd95 hw) (by decide) (by decide)) q105a q105b q105c (g := (mkF mi 16 #[.val (.ref a), .val (.int p), .val (.ref b_103), .unset] [(.ref b_103)])) rfl (by rw [hml]; rfl) (Steps.refl _) (argsL := []) (rest := []) (lenOf pd_5 rfl) rfl (by show 2 * 0 + _ ≤ _; exact Nat.le_of_eq rfl) (hb hby d_prog_19_method_8_code_16) (fun _ _ => ⟨rfl, rfl, (by decide : 1 + 0 ≤ _), (by decide : 4 + 0 ≤ _)⟩)
  dsimp only [Pt.U, Pt.locs, Pt.cells, Pt.slots] at X105 l105 y105 z105 st105 hQ105
  subst l105 y105 z105
  obtain ⟨rfl, Nq105, ek105⟩ := hQ105
  have N105 := Fr.app N103 Nq105
  obtain ⟨fs, hr, hrun, hended, hW, hsame⟩ := X105.leave (v := some (.int p)) (fun hq => by rw [Bd.returns] at hq; cases hq)
  refine ⟨_, _, pre0 _ ?_, hrun, hended, _, _, rfl, ?_, ⟨_, rfl⟩, hW, hsame.mono (by decide) (by decide)⟩
  · show Steps pg.tables ev below (s₁.setTop (mkF mi 0 #[.val (.ref a), .unset, .unset, .unset] [])) _
    refine XS.aloadN X0.here hx rfl (hb hby d_prog_19_method_8_code_0) rfl rfl ?_
    show Steps pg.tables ev below (s₁.setTop (mkF mi 1 #[.val (.ref a), .unset, .unset, .unset] [(.ref a)])) _
    refine st101 _ ?_
    show Steps pg.tables ev below (T101.setTop (mkF mi 4 #[.val (.ref a), .unset, .unset, .unset] [(.int p)])) _
    refine XS.istoreN X101.here hx rfl (hb hby d_prog_19_method_8_code_4) rfl (l' := #[.val (.ref a), .val (.int p), .unset, .unset]) rfl ?_
    show Steps pg.tables ev below (T101.setTop (mkF mi 5 #[.val (.ref a), .val (.int p), .unset, .unset] [])) _
    refine XS.aloadN X101.here hx rfl (hb hby d_prog_19_method_8_code_5) rfl rfl ?_
    show Steps pg.tables ev below (T101.setTop (mkF mi 6 #[.val (.ref a), .val (.int p), .unset, .unset] [(.ref a)])) _
    refine st102 _ ?_
    show Steps pg.tables ev below (T102.setTop (mkF mi 9 #[.val (.ref a), .val (.int p), .unset, .unset] [(.ref w)])) _
    refine st103.trans ?_
    show Steps pg.tables ev below (T103.setTop (mkF mi 14 #[.val (.ref a), .val (.int p), .unset, .unset] [(.ref b_103)])) _
    refine XS.astoreN X103.here hx rfl (hb hby d_prog_19_method_8_code_14) rfl rfl (l' := #[.val (.ref a), .val (.int p), .val (.ref b_103), .unset]) rfl ?_
    show Steps pg.tables ev below (T103.setTop (mkF mi 15 #[.val (.ref a), .val (.int p), .val (.ref b_103), .unset] [])) _
    refine XS.aloadN X103.here hx rfl (hb hby d_prog_19_method_8_code_15) rfl rfl ?_
    show Steps pg.tables ev below (T103.setTop (mkF mi 16 #[.val (.ref a), .val (.int p), .val (.ref b_103), .unset] [(.ref b_103)])) _
    refine st105.trans ?_
    show Steps pg.tables ev below (T105.setTop (mkF mi 21 #[.val (.ref a), .val (.int p), .val (.ref b_103), .unset] [(.int (0 : Int32))])) _
    refine XS.ifYes X105.here hx rfl (pc0 := 21) (pc' := 46) rfl (hb hby d_prog_19_method_8_code_21) rfl ((if0 _ _).trans (teq (rfl : (0 : Int32) = (0 : Int32))).1) (by decide) (by decide) ?_
    show Steps pg.tables ev below (T105.setTop (mkF mi 46 #[.val (.ref a), .val (.int p), .val (.ref b_103), .unset] [])) _
    refine XS.iloadN X105.here hx rfl (hb hby d_prog_19_method_8_code_46) rfl ?_
    show Steps pg.tables ev below (T105.setTop (mkF mi 47 #[.val (.ref a), .val (.int p), .val (.ref b_103), .unset] [(.int p)])) _
    exact retI X105 hx Bd.returns (hb hby d_prog_19_method_8_code_47) hr
  · show Q_glp Z a p w el ke hE n0 _ T105.heap _
    rw [ek105]
    exact ⟨rfl, N105, ((Keep.refl hE []).trans Kq103 all0)⟩
theorem own_mask (x : Int32) : ¬ (x &&& (2147483647 : Int32)) < 0 := by
  have := Jvm.Kit.i32_mask x 2147483647 (k := 31) (by decide) (by decide)
  rw [Int32.lt_iff_toInt_lt, this]; have := Int.emod_nonneg x.toInt (show (2 : Int) ^ 31 ≠ 0 by decide); show ¬ _ < (0 : Int); omega
theorem own_cmp {p : Int32} (hp : ¬ p < 0) {k : Nat} (hk : k < 2 ^ 31) : p < Int32.ofNat k ↔ p.toNatClampNeg < k := by
  rw [Int32.lt_iff_toInt_lt, Int32.toInt_ofNat_small hk, (own_nn hp).1]; omega
theorem own_digF {p : Int32} (hp : ¬ p < 0) : digF p = Int32.ofNat (Jvm.Free.SBG.digits p.toNatClampNeg) := by
  have c := fun k hk => own_cmp hp (k := k) hk
  unfold digF Jvm.Free.SBG.digits
  have h1 := c 10 (by decide); have h2 := c 100 (by decide); have h3 := c 1000 (by decide); have h4 := c 10000 (by decide); have h5 := c 100000 (by decide); have h6 := c 1000000 (by decide); have h7 := c 10000000 (by decide); have h8 := c 100000000 (by decide); have h9 := c 1000000000 (by decide)
  simp only [show (10 : Int32) = Int32.ofNat 10 from rfl, show (100 : Int32) = Int32.ofNat 100 from rfl, show (1000 : Int32) = Int32.ofNat 1000 from rfl, show (10000 : Int32) = Int32.ofNat 10000 from rfl, show (100000 : Int32) = Int32.ofNat 100000 from rfl, show (1000000 : Int32) = Int32.ofNat 1000000 from rfl, show (10000000 : Int32) = Int32.ofNat 10000000 from rfl, show (100000000 : Int32) = Int32.ofNat 100000000 from rfl, show (1000000000 : Int32) = Int32.ofNat 1000000000 from rfl, h1, h2, h3, h4, h5, h6, h7, h8, h9]
  repeat' split
  all_goals rfl
theorem own_len {p : Int32} (hp : ¬ p < 0) : (Int32.ofNat (dch p.toNatClampNeg).length) = digF p := by rw [own_dch_length, own_digF hp]
theorem own_pos (p : Int32) : 0 < (dch p.toNatClampNeg).length := by rw [own_dch_length]; have := own_digits_bd p.toNatClampNeg; omega
theorem own_powF : ∀ d, d < 10 → powF (Int32.ofNat (d + 1) - (1 : Int32)) = Int32.ofNat (10 ^ d) := by decide
theorem own_pow {p : Int32} (hp : ¬ p < 0) : powF (digF p - (1 : Int32)) = Int32.ofNat (10 ^ (Jvm.Free.SBG.digits p.toNatClampNeg - 1)) := by
  have h := own_digits_bd p.toNatClampNeg
  rw [own_digF hp]
  have := own_powF (Jvm.Free.SBG.digits p.toNatClampNeg - 1) (by omega)
  rwa [show Jvm.Free.SBG.digits p.toNatClampNeg - 1 + 1 = Jvm.Free.SBG.digits p.toNatClampNeg from by omega] at this
theorem own_p10 : ∀ d, d < 10 → 10 ^ d < 2 ^ 31 ∧ 0 < 10 ^ d := by decide
theorem own_pow_nz {p : Int32} (hp : ¬ p < 0) : powF (digF p - (1 : Int32)) ≠ 0 := by
  rw [own_pow hp]; have h := own_digits_bd p.toNatClampNeg
  have h2 := own_p10 (Jvm.Free.SBG.digits p.toNatClampNeg - 1) (by omega)
  intro q; have h3 := congrArg Int32.toInt q; rw [Int32.toInt_ofNat_small (by omega)] at h3; exact absurd (Int.ofNat.inj h3) (Nat.ne_of_gt h2.2)
theorem own_div {a b : Nat} (ha : a < 2 ^ 31) (hb : b < 2 ^ 31) (h0 : 0 < b) : Int32.ofNat a / Int32.ofNat b = Int32.ofNat (a / b) := by
  apply Int32.toInt_inj.mp
  have e : (a / b) < 2 ^ 31 := Nat.lt_of_le_of_lt (Nat.div_le_self _ _) ha
  rw [Int32.toInt_div, Int32.toInt_ofNat_small ha, Int32.toInt_ofNat_small hb, Int32.toInt_ofNat_small e]
  rw [← Int.ofNat_tdiv]; generalize a / b = q at e; rw [Int.bmod_eq_of_le] <;> omega
theorem own_mod {a : Nat} (ha : a < 2 ^ 31) : Int32.ofNat a % (10 : Int32) = Int32.ofNat (a % 10) := by
  apply Int32.toInt_inj.mp
  rw [Int32.toInt_mod, Int32.toInt_ofNat_small ha, Int32.toInt_ofNat_small (by omega)]
  show (a : Int).tmod 10 = _; rw [Int.tmod_eq_emod_of_nonneg (by omega)]; omega
theorem own_i2c : ∀ r, r < 10 → Int32.ofNat (48 + r) = ((48 : Int32) + Int32.ofNat r).toUInt32.toUInt16.toUInt32.toInt32 := by decide
theorem own_lead (n : Nat) (hn : n < 2 ^ 31) : n / 10 ^ (Jvm.Free.SBG.digits n - 1) < 10 := by
  have key : ∀ d, n < 10 ^ (d + 1) → n / 10 ^ d < 10 := fun d h => Nat.div_lt_of_lt_mul (by rw [Nat.pow_succ] at h; omega)
  unfold Jvm.Free.SBG.digits
  repeat' split
  all_goals (apply key; simp only [Nat.reduceAdd, Nat.reduceSub, Nat.reducePow]; omega)
theorem own_first {p : Int32} (hp : ¬ p < 0) : ((dch p.toNatClampNeg).getD 0 0) = (((48 : Int32) + (p / (powF (digF p - (1 : Int32))))).toUInt32.toUInt16.toUInt32.toInt32) := by
  have h := own_digits_bd p.toNatClampNeg
  have hb := own_p10 (Jvm.Free.SBG.digits p.toNatClampNeg - 1) (by omega)
  have hl := own_lead p.toNatClampNeg (own_nn hp).2
  rw [own_dch_at (by omega), own_pow hp, Nat.sub_zero, Nat.mod_eq_of_lt hl]
  conv => rhs; rw [own_back hp, Int32.toNatClampNeg_ofNat_of_lt (own_nn hp).2]
  rw [own_div (own_nn hp).2 hb.1 hb.2]
  exact own_i2c _ hl
theorem own_idx {p : Int32} (hp : ¬ p < 0) : (digF p - (1 : Int32)) = Int32.ofNat (Jvm.Free.SBG.digits p.toNatClampNeg - 1) := by
  have h := own_digits_bd p.toNatClampNeg
  rw [own_digF hp, Int32.ofNat_sub _ _ h.1]; rfl
theorem own_idx_lt (p : Int32) : Jvm.Free.SBG.digits p.toNatClampNeg - 1 < (dch p.toNatClampNeg).length := by rw [own_dch_length]; have := own_digits_bd p.toNatClampNeg; omega
theorem own_last {p : Int32} (hp : ¬ p < 0) : ((dch p.toNatClampNeg).getD (Jvm.Free.SBG.digits p.toNatClampNeg - 1) 0) = (((48 : Int32) + (p % (10 : Int32))).toUInt32.toUInt16.toUInt32.toInt32) := by
  have h := own_digits_bd p.toNatClampNeg
  rw [own_dch_at (by omega), Nat.sub_self, Nat.pow_zero, Nat.div_one]
  conv => rhs; rw [own_back hp]
  rw [own_mod (own_nn hp).2]
  exact own_i2c _ (Nat.mod_lt _ (by omega))
theorem pd_14 : parseMethodDescriptor "(I)Lcom/example/endless_runs/endlessruns/automaton/Label;" = some ⟨[.int], some (.object "com/example/endless_runs/endlessruns/automaton/Label")⟩ := by decide +kernel
theorem pd_15 : parseMethodDescriptor "()Ljava/lang/String;" = some ⟨[], some (.object "java/lang/String")⟩ := by decide +kernel
theorem pd_16 : parseMethodDescriptor "(I)C" = some ⟨[.int], some .char⟩ := by decide +kernel
theorem ef_law (mi : MethodId) (xi : Int32) : entryFrame mi #[(.int xi)] maxLocals = mkF mi 0 #[.val (.int xi), .unset, .unset, .unset, .unset, .unset, .unset] [] := by first | (simp [entryFrame, mkF, argsToLocals, Value.category, maxLocals]; done) | rfl
def Q_law (Z : State) (xi : Int32) (k : Addr) (w : Addr) (el : Addr) (ke : ClassId) (tr : Addr) (fl : Addr) (zc : Int32) (fm : Value) (sg : Addr) (d1 : Addr) (D1 : Cell) (d2 : Addr) (D2 : Cell) (hE : Heap) (n0 : Nat) (vv : Option Value) (hh : Heap) (LL : List Loc) : Prop := (vv = some (.int (1 : Int32))) ∧ (Fr n0 LL)
set_option maxRecDepth 65536 in
set_option maxHeartbeats 40000000 in
theorem rm_law (la : Launch) (Z : State) (a0 : Array Value) (hw : ∀ d ∈ tables_1, d.before a0 Z = true) (ws : List Jvm.Cond) (xi : Int32) (k : Addr) (w : Addr) (el : Addr) (ke : ClassId) (tr : Addr) (fl : Addr) (zc : Int32) (fm : Value) (sg : Addr) (d1 : Addr) (D1 : Cell) (d2 : Addr) (D2 : Cell) (hE : Heap) (n0 : Nat) (O : Old Z n0 hE) (D0_ : Sta Z Z.heap "com/example/endless_runs/endlessruns/automaton/Label$Kind" "PROPOSITION" "Lcom/example/endless_runs/endlessruns/automaton/Label$Kind;" (.ref k)) (D1_ : Exa Z Z.heap k "com/example/endless_runs/endlessruns/automaton/Label$Kind") (D2_ : Fld Z Z.heap k "java/lang/Enum" "ordinal" "I" (.int (2 : Int32))) (D3_ : Sta Z Z.heap "java/util/ImmutableCollections" "EMPTY_LIST" "Ljava/util/ImmutableCollections$ListN;" (.ref w)) (D4_ : Exa Z Z.heap w "java/util/ImmutableCollections$ListN") (D5_ : Fld Z Z.heap w "java/util/ImmutableCollections$ListN" "elements" "[Ljava/lang/Object;" (.ref el)) (D6_ : Arv Z Z.heap el ke (.object "java/lang/Object") (0 : Int32) [] .null) (D7_ : Sta Z Z.heap "com/example/endless_runs/endlessruns/automaton/Label" "TRUE" "Lcom/example/endless_runs/endlessruns/automaton/Label;" (.ref tr)) (D8_ : Exa Z Z.heap tr "com/example/endless_runs/endlessruns/automaton/Label") (D9_ : Sta Z Z.heap "com/example/endless_runs/endlessruns/automaton/Label" "FALSE" "Lcom/example/endless_runs/endlessruns/automaton/Label;" (.ref fl)) (D10_ : Exa Z Z.heap fl "com/example/endless_runs/endlessruns/automaton/Label") (D11_ : Sta Z Z.heap "java/lang/String" "COMPACT_STRINGS" "Z" (.int zc)) (D12_ : Sta Z Z.heap "jdk/internal/util/Preconditions" "SIOOBE_FORMATTER" "Ljava/util/function/BiFunction;" fm) (hzc : ¬ (zc = (0 : Int32))) (hfm : fm.isRef = true) (hT1 : Jvm.Free.SBG.Tbl Z "DigitOnes" sg d1 D1) (hT2 : Jvm.Free.SBG.Tbl Z "DigitTens" sg d2 D2) (hO1 : Jvm.Free.SBG.Ones D1) (hO2 : Jvm.Free.SBG.Tens D2) :
    MetFree la x (head1 (Jvm.Cond.code x code maxLocals ret :: ws) room_1) (fun aa UU => aa = #[(.int xi)] ∧ Z.Warmed39 UU.vm ∧ UU.heap = hE) (fun _ _ _ _ _ => True) (fun _ UU oo UV => ∃ vv LL, oo = .returned vv ∧ Q_law Z xi k w el ke tr fl zc fm sg d1 D1 d2 D2 hE n0 vv UV.heap LL ∧ FrameEnd UU oo UV LL room_1.cells room_1.slots) := by
  refine MetFree.of_bodySF (plainFor_of_name pn_com_example_endless_runs_endlessruns_automaton_LabelPropositionPinLaw) hisR ?_
  intro pg ev sb mi gs below me cd s₁ Bd hml0 hPt hKt
  obtain ⟨rfl, hZ, hh⟩ := hPt
  have hx := Bd.exec
  have hby := Bd.bytes
  have hml : cd.maxLocals = 7 := hml0
  have hown : sb.vm.findClass "com/example/endless_runs/endlessruns/automaton/LabelPropositionPinLaw" = some mi.cls := findClass_of_methodNamed Bd.named
  have hnm := (name_of_methodNamed Bd.named Bd.method).1
  have X0 : Stand pg la ev room_1 sb mi #[(.int xi)] below me cd s₁ [] 0 0 := Stand.of_body Bd
  have eE : s₁.heap = hE := by rw [← hh, Bd.state]; rfl
  have N0 := Fr.nil n0
  have pre0 : ∀ tt, Steps pg.tables ev below (s₁.setTop (mkF mi 0 #[.val (.int xi), .unset, .unset, .unset, .unset, .unset, .unset] [])) tt → Steps pg.tables ev below (s₁.setTop (entryFrame mi #[(.int xi)] maxLocals)) tt := fun tt kk => castTop (ef_law mi xi) kk
  obtain ⟨p, hpe⟩ : ∃ z, z = (xi &&& (2147483647 : Int32)) := ⟨_, rfl⟩
  have pre101 : ∀ tt, Steps pg.tables ev below (s₁.setTop (mkF mi 4 #[.val (.int xi), .unset, .unset, .unset, .unset, .unset, .unset] [(.int (xi &&& (2147483647 : Int32)))])) tt → Steps pg.tables ev below (s₁.setTop (entryFrame mi #[(.int xi)] maxLocals)) tt := fun tt kk => pre0 _ (by
    show Steps pg.tables ev below (s₁.setTop (mkF mi 0 #[.val (.int xi), .unset, .unset, .unset, .unset, .unset, .unset] [])) _
    refine XS.iloadN X0.here hx rfl (hb hby at_0) rfl ?_
    show Steps pg.tables ev below (s₁.setTop (mkF mi 1 #[.val (.int xi), .unset, .unset, .unset, .unset, .unset, .unset] [(.int xi)])) _
    refine X0.ldcInt hx hown (mvT hZ (wd0 hw)) (g := (mkF mi 1 #[.val (.int xi), .unset, .unset, .unset, .unset, .unset, .unset] [(.int xi)])) rfl (hb hby at_1) _ ?_
    show Steps pg.tables ev below (s₁.setTop (mkF mi 3 #[.val (.int xi), .unset, .unset, .unset, .unset, .unset, .unset] [(.int (2147483647 : Int32)), (.int xi)])) _
    refine XS.iand X0.here hx rfl (hb hby at_3) rfl ?_
    exact kk)
  have pre102 : ∀ tt, Steps pg.tables ev below (s₁.setTop (mkF mi 4 #[.val (.int xi), .unset, .unset, .unset, .unset, .unset, .unset] [(.int p)])) tt → Steps pg.tables ev below (s₁.setTop (entryFrame mi #[(.int xi)] maxLocals)) tt := fun tt kk => pre101 tt (by rw [hpe.symm]; exact kk)
  have hp : ¬ (p < (0 : Int32)) := by rw [hpe]; exact own_mask xi
  obtain ⟨v103, _, ⟨T103, L103, k103, n103⟩, -, X103, ⟨Lc103, hQ103, l103, y103, z103⟩, st103⟩ := Jvm.LawKit.callS X0 hx (y := mn2) hown (mvT hZ (wd1 hw)) (mvT hZ (wd2 hw)) (mvT hZ (wd3 hw)) (mvT hZ (wd4 hw)) (by decide) (backOf (W := 0) (rm_pro la Z a0 hw [] p k w hE n0 O D0_ D3_ (hp : ¬ (p < (0 : Int32)))) hZ (wd4 hw) (wd3 hw) (by decide) (by decide)) (g := (mkF mi 6 #[.val (.int xi), .val (.int p), .unset, .unset, .unset, .unset, .unset] [(.int p)])) rfl (by rw [hml]; rfl) (argsL := [(.int p)]) (rest := []) (lenOf pd_14 rfl) rfl (by show 2 * 0 + _ ≤ _; exact Nat.le_of_eq rfl) (hb hby at_6) (fun _ _ => ⟨rfl, eE, (by decide : 0 + 1 ≤ _), (by decide : 0 + 3 ≤ _)⟩)
  dsimp only [Pt.U, Pt.locs, Pt.cells, Pt.slots] at X103 l103 y103 z103 st103 hQ103
  subst l103 y103 z103
  obtain ⟨b_103, rfl, Nq103, Kq103, fr_b_103, r103_0, r103_1, r103_2, r103_3⟩ := hQ103
  have N103 := Fr.app N0 Nq103
  have O104 : Old Z n0 T103.heap := (O.keep Kq103 all0)
  obtain ⟨cq105, kq105, q105a, q105b, q105c⟩ := isOf hZ rfl r103_0
  obtain ⟨v105, _, ⟨T105, L105, k105, n105⟩, -, X105, ⟨Lc105, hQ105, l105, y105, z105⟩, st105⟩ := X103.virtualBack hx (y := mn16) (z := mn16) hown (mvT hZ (wd28 hw)) (mvT hZ (wd29 hw)) (notFace_of_selects (args := #[]) (mvT hZ (wd31 hw))) (mvT hZ (wd31 hw)) (mvT hZ (wd30 hw)) (by decide) (backOf (W := 0) (rm_tos la Z a0 hw [] b_103 p k zc sg d1 D1 d2 D2 T103.heap n0 O104 r103_0 r103_1 r103_2 D1_ D2_ D11_ (hp : ¬ (p < (0 : Int32))) (hzc : ¬ (zc = (0 : Int32))) (hT1 : Jvm.Free.SBG.Tbl Z "DigitOnes" sg d1 D1) (hT2 : Jvm.Free.SBG.Tbl Z "DigitTens" sg d2 D2) (hO1 : Jvm.Free.SBG.Ones D1) (hO2 : Jvm.Free.SBG.Tens D2)) hZ (wd32 hw) (wd3 hw) (by decide) (by decide)) q105a q105c (g := (mkF mi 11 #[.val (.int xi), .val (.int p), .val (.ref b_103), .unset, .unset, .unset, .unset] [(.ref b_103)])) rfl (by rw [hml]; rfl) (Steps.refl _) (argsL := []) (rest := []) (lenOf pd_15 rfl) rfl (by show 2 * 0 + _ ≤ _; exact Nat.le_of_eq rfl) (hb hby at_11) (fun _ _ => ⟨rfl, rfl, (by decide : 1 + 2 ≤ _), (by decide : 3 + 14 ≤ _)⟩)
  dsimp only [Pt.U, Pt.locs, Pt.cells, Pt.slots] at X105 l105 y105 z105 st105 hQ105
  subst l105 y105 z105
  obtain ⟨x_105, t_105, rfl, Nq105, Kq105, fr_x_105, fr_t_105, r105_0⟩ := hQ105
  have N105 := Fr.app N103 Nq105
  have O106 : Old Z n0 T105.heap := (O104.keep Kq105 all0)
  obtain ⟨v107, _, ⟨T107, L107, k107, n107⟩, -, X107, ⟨Lc107, hQ107, l107, y107, z107⟩, st107⟩ := Jvm.LawKit.callS X105 hx (y := mn17) hown (mvT hZ (wd67 hw)) (mvT hZ (wd68 hw)) (mvT hZ (wd69 hw)) (mvT hZ (wd70 hw)) (by decide) (backOf (W := 0) (rm_dig la Z a0 hw [] p T105.heap n0 O106) hZ (wd70 hw) (wd69 hw) (by decide) (by decide)) (g := (mkF mi 16 #[.val (.int xi), .val (.int p), .val (.ref b_103), .val (.ref x_105), .unset, .unset, .unset] [(.int p)])) rfl (by rw [hml]; rfl) (argsL := [(.int p)]) (rest := []) (lenOf pd_7 rfl) rfl (by show 2 * 0 + _ ≤ _; exact Nat.le_of_eq rfl) (hb hby at_16) (fun _ _ => ⟨rfl, rfl, (by decide : 3 + 0 ≤ _), (by decide : 17 + 0 ≤ _)⟩)
  dsimp only [Pt.U, Pt.locs, Pt.cells, Pt.slots] at X107 l107 y107 z107 st107 hQ107
  subst l107 y107 z107
  obtain ⟨rfl, Nq107, ek107⟩ := hQ107
  have N107 := Fr.app N105 Nq107
  obtain ⟨v108, _, ⟨T108, L108, k108, n108⟩, -, X108, ⟨Lc108, hQ108, l108, y108, z108⟩, st108⟩ := Jvm.LawKit.callS X107 hx (y := mn18) hown (mvT hZ (wd71 hw)) (mvT hZ (wd72 hw)) (mvT hZ (wd69 hw)) (mvT hZ (wd73 hw)) (by decide) (backOf (W := 1) (rm_pw la Z a0 hw [] ((digF p) - (1 : Int32)) T105.heap n0 O106) hZ (wd73 hw) (wd69 hw) (by decide) (by decide)) (g := (mkF mi 26 #[.val (.int xi), .val (.int p), .val (.ref b_103), .val (.ref x_105), .val (.int (digF p)), .unset, .unset] [(.int ((digF p) - (1 : Int32))), (.int p)])) rfl (by rw [hml]; rfl) (argsL := [(.int ((digF p) - (1 : Int32)))]) (rest := [(.int p)]) (lenOf pd_7 rfl) rfl (by show 2 * 0 + _ ≤ _; exact Nat.le_of_eq rfl) (hb hby at_26) (fun _ _ => ⟨rfl, ek107, (by decide : 3 + 0 ≤ _), (by decide : 17 + 0 ≤ _)⟩)
  dsimp only [Pt.U, Pt.locs, Pt.cells, Pt.slots] at X108 l108 y108 z108 st108 hQ108
  subst l108 y108 z108
  obtain ⟨rfl, Nq108, ek108⟩ := hQ108
  have N108 := Fr.app N107 Nq108
  obtain ⟨T109, X109, e109, st109⟩ := getS2 X108 hx hZ hown (host := "") (Or.inl (wd74 hw)) Via.refl ek108 (D7_.ext O106.2) (g := (mkF mi 39 #[.val (.int xi), .val (.int p), .val (.ref b_103), .val (.ref x_105), .val (.int (digF p)), .val (.int (p / (powF ((digF p) - (1 : Int32))))), .val (.int (p % (10 : Int32)))] [(.ref b_103)])) rfl (hb hby at_39)
  have ne_tr_b_103 : tr ≠ b_103 := Nat.ne_of_lt (Nat.lt_of_lt_of_le D8_.lt (Nat.le_trans O.2.1 fr_b_103))
  obtain ⟨T110, X110, e110, st110⟩ := getS2 X109 hx hZ hown (host := "") (Or.inl (wd76 hw)) Via.refl e109 (D9_.ext O106.2) (g := (mkF mi 46 #[.val (.int xi), .val (.int p), .val (.ref b_103), .val (.ref x_105), .val (.int (digF p)), .val (.int (p / (powF ((digF p) - (1 : Int32))))), .val (.int (p % (10 : Int32)))] [(.ref b_103)])) rfl (hb hby at_46)
  have ne_fl_b_103 : fl ≠ b_103 := Nat.ne_of_lt (Nat.lt_of_lt_of_le D10_.lt (Nat.le_trans O.2.1 fr_b_103))
  have f111 : Fld Z T105.heap b_103 "com/example/endless_runs/endlessruns/automaton/Label" "proposition" "I" (.int p) := (r103_2.keep Kq105 nin0)
  have f112 : Fld Z T105.heap b_103 "com/example/endless_runs/endlessruns/automaton/Label" "operands" "Ljava/util/List;" (.ref w) := (r103_3.keep Kq105 nin0)
  have f114 : Exa Z T105.heap b_103 "com/example/endless_runs/endlessruns/automaton/Label" := (r103_0.keep Kq105)
  obtain ⟨cq113, kq113, q113a, q113b, q113c⟩ := isOf hZ e110 f114
  obtain ⟨v113, _, ⟨T113, L113, k113, n113⟩, -, X113, ⟨Lc113, hQ113, l113, y113, z113⟩, st113⟩ := X110.virtualBack hx (y := mn26) (z := mn26) hown (mvT hZ (wd78 hw)) (mvT hZ (wd79 hw)) (notFace_of_selects (args := #[]) (mvT hZ (wd81 hw))) (mvT hZ (wd81 hw)) (mvT hZ (wd80 hw)) (by decide) (backOf (W := 0) (rm_glp la Z a0 hw [] b_103 p w el ke T105.heap n0 O106 f111 f112 D4_ D5_ D6_) hZ (wd82 hw) (wd3 hw) (by decide) (by decide)) q113a q113c (g := (mkF mi 53 #[.val (.int xi), .val (.int p), .val (.ref b_103), .val (.ref x_105), .val (.int (digF p)), .val (.int (p / (powF ((digF p) - (1 : Int32))))), .val (.int (p % (10 : Int32)))] [(.ref b_103)])) rfl (by rw [hml]; rfl) (Steps.refl _) (argsL := []) (rest := []) (lenOf pd_10 rfl) rfl (by show 2 * 0 + _ ≤ _; exact Nat.le_of_eq rfl) (hb hby at_53) (fun _ _ => ⟨rfl, e110, (by decide : 3 + 1 ≤ _), (by decide : 17 + 4 ≤ _)⟩)
  dsimp only [Pt.U, Pt.locs, Pt.cells, Pt.slots] at X113 l113 y113 z113 st113 hQ113
  subst l113 y113 z113
  obtain ⟨rfl, Nq113, Kq113⟩ := hQ113
  have N113 := Fr.app N108 Nq113
  have O115 : Old Z n0 T113.heap := (O106.keep Kq113 all0)
  have f116 : LStr Z T113.heap x_105 t_105 (dch p.toNatClampNeg) := (r105_0.keep Kq113 nin0 nin0)
  obtain ⟨cq117, kq117, q117a, q117b, q117c⟩ := isOf hZ rfl (f116).1
  obtain ⟨v117, _, ⟨T117, L117, k117, n117⟩, -, X117, ⟨Lc117, hQ117, l117, y117, z117⟩, st117⟩ := X113.virtualBack hx (y := mn6) (z := mn6) hown (mvT hZ (wd127 hw)) (mvT hZ (wd128 hw)) (notFace_of_selects (args := #[]) (mvT hZ (wd130 hw))) (mvT hZ (wd130 hw)) (mvT hZ (wd129 hw)) (by decide) (backOf (W := 0) (rm_slen la Z a0 hw [] x_105 t_105 (dch p.toNatClampNeg) zc T113.heap n0 O115 f116 D11_ (hzc : ¬ (zc = (0 : Int32)))) hZ (wd131 hw) (wd50 hw) (by decide) (by decide)) q117a q117c (g := (mkF mi 61 #[.val (.int xi), .val (.int p), .val (.ref b_103), .val (.ref x_105), .val (.int (digF p)), .val (.int (p / (powF ((digF p) - (1 : Int32))))), .val (.int (p % (10 : Int32)))] [(.ref x_105)])) rfl (by rw [hml]; rfl) (Steps.refl _) (argsL := []) (rest := []) (lenOf pd_10 rfl) rfl (by show 2 * 0 + _ ≤ _; exact Nat.le_of_eq rfl) (hb hby at_61) (fun _ _ => ⟨rfl, rfl, (by decide : 4 + 0 ≤ _), (by decide : 21 + 0 ≤ _)⟩)
  dsimp only [Pt.U, Pt.locs, Pt.cells, Pt.slots] at X117 l117 y117 z117 st117 hQ117
  subst l117 y117 z117
  obtain ⟨rfl, Nq117, ek117⟩ := hQ117
  have N117 := Fr.app N113 Nq117
  obtain ⟨cq118, kq118, q118a, q118b, q118c⟩ := isOf hZ ek117 (f116).1
  obtain ⟨v118, _, ⟨T118, L118, k118, n118⟩, -, X118, ⟨Lc118, hQ118, l118, y118, z118⟩, st118⟩ := X117.virtualBack hx (y := mn11) (z := mn11) hown (mvT hZ (wd138 hw)) (mvT hZ (wd139 hw)) (notFace_of_selects (args := #[]) (mvT hZ (wd141 hw))) (mvT hZ (wd141 hw)) (mvT hZ (wd140 hw)) (by decide) (backOf (W := 0) (rm_sch la Z a0 hw [] x_105 (0 : Int32) t_105 (dch p.toNatClampNeg) 0 zc fm T113.heap n0 O115 f116 D11_ D12_ (rfl : (0 : Int32) = Int32.ofNat 0) (own_pos p : 0 < (dch p.toNatClampNeg).length) (hzc : ¬ (zc = (0 : Int32))) (hfm : fm.isRef = true)) hZ (wd142 hw) (wd50 hw) (by decide) (by decide)) q118a q118c (g := (mkF mi 71 #[.val (.int xi), .val (.int p), .val (.ref b_103), .val (.ref x_105), .val (.int (digF p)), .val (.int (p / (powF ((digF p) - (1 : Int32))))), .val (.int (p % (10 : Int32)))] [(.int (0 : Int32)), (.ref x_105)])) rfl (by rw [hml]; rfl) (Steps.refl _) (argsL := [(.int (0 : Int32))]) (rest := []) (lenOf pd_16 rfl) rfl (by show 2 * 0 + _ ≤ _; exact Nat.le_of_eq rfl) (hb hby at_71) (fun _ _ => ⟨rfl, ek117, (by decide : 4 + 0 ≤ _), (by decide : 21 + 0 ≤ _)⟩)
  dsimp only [Pt.U, Pt.locs, Pt.cells, Pt.slots] at X118 l118 y118 z118 st118 hQ118
  subst l118 y118 z118
  obtain ⟨rfl, Nq118, ek118⟩ := hQ118
  have N118 := Fr.app N117 Nq118
  obtain ⟨cq119, kq119, q119a, q119b, q119c⟩ := isOf hZ ek118 (f116).1
  obtain ⟨v119, _, ⟨T119, L119, k119, n119⟩, -, X119, ⟨Lc119, hQ119, l119, y119, z119⟩, st119⟩ := X118.virtualBack hx (y := mn11) (z := mn11) hown (mvT hZ (wd138 hw)) (mvT hZ (wd139 hw)) (notFace_of_selects (args := #[]) (mvT hZ (wd141 hw))) (mvT hZ (wd141 hw)) (mvT hZ (wd140 hw)) (by decide) (backOf (W := 0) (rm_sch la Z a0 hw [] x_105 ((digF p) - (1 : Int32)) t_105 (dch p.toNatClampNeg) (Jvm.Free.SBG.digits p.toNatClampNeg - 1) zc fm T113.heap n0 O115 f116 D11_ D12_ (own_idx hp : ((digF p) - (1 : Int32)) = Int32.ofNat (Jvm.Free.SBG.digits p.toNatClampNeg - 1)) (own_idx_lt p : (Jvm.Free.SBG.digits p.toNatClampNeg - 1) < (dch p.toNatClampNeg).length) (hzc : ¬ (zc = (0 : Int32))) (hfm : fm.isRef = true)) hZ (wd142 hw) (wd50 hw) (by decide) (by decide)) q119a q119c (g := (mkF mi 88 #[.val (.int xi), .val (.int p), .val (.ref b_103), .val (.ref x_105), .val (.int (digF p)), .val (.int (p / (powF ((digF p) - (1 : Int32))))), .val (.int (p % (10 : Int32)))] [(.int ((digF p) - (1 : Int32))), (.ref x_105)])) rfl (by rw [hml]; rfl) (Steps.refl _) (argsL := [(.int ((digF p) - (1 : Int32)))]) (rest := []) (lenOf pd_16 rfl) rfl (by show 2 * 0 + _ ≤ _; exact Nat.le_of_eq rfl) (hb hby at_88) (fun _ _ => ⟨rfl, ek118, (by decide : 4 + 0 ≤ _), (by decide : 21 + 0 ≤ _)⟩)
  dsimp only [Pt.U, Pt.locs, Pt.cells, Pt.slots] at X119 l119 y119 z119 st119 hQ119
  subst l119 y119 z119
  obtain ⟨rfl, Nq119, ek119⟩ := hQ119
  have N119 := Fr.app N118 Nq119
  obtain ⟨fs, hr, hrun, hended, hW, hsame⟩ := X119.leave (v := some (.int (1 : Int32))) (fun hq => by rw [Bd.returns] at hq; cases hq)
  refine ⟨_, _, pre102 _ ?_, hrun, hended, _, _, rfl, ?_, ⟨_, rfl⟩, hW, hsame.mono (by decide) (by decide)⟩
  · show Steps pg.tables ev below (s₁.setTop (mkF mi 4 #[.val (.int xi), .unset, .unset, .unset, .unset, .unset, .unset] [(.int p)])) _
    refine XS.istoreN X0.here hx rfl (hb hby at_4) rfl (l' := #[.val (.int xi), .val (.int p), .unset, .unset, .unset, .unset, .unset]) rfl ?_
    show Steps pg.tables ev below (s₁.setTop (mkF mi 5 #[.val (.int xi), .val (.int p), .unset, .unset, .unset, .unset, .unset] [])) _
    refine XS.iloadN X0.here hx rfl (hb hby at_5) rfl ?_
    show Steps pg.tables ev below (s₁.setTop (mkF mi 6 #[.val (.int xi), .val (.int p), .unset, .unset, .unset, .unset, .unset] [(.int p)])) _
    refine st103 _ ?_
    show Steps pg.tables ev below (T103.setTop (mkF mi 9 #[.val (.int xi), .val (.int p), .unset, .unset, .unset, .unset, .unset] [(.ref b_103)])) _
    refine XS.astoreN X103.here hx rfl (hb hby at_9) rfl rfl (l' := #[.val (.int xi), .val (.int p), .val (.ref b_103), .unset, .unset, .unset, .unset]) rfl ?_
    show Steps pg.tables ev below (T103.setTop (mkF mi 10 #[.val (.int xi), .val (.int p), .val (.ref b_103), .unset, .unset, .unset, .unset] [])) _
    refine XS.aloadN X103.here hx rfl (hb hby at_10) rfl rfl ?_
    show Steps pg.tables ev below (T103.setTop (mkF mi 11 #[.val (.int xi), .val (.int p), .val (.ref b_103), .unset, .unset, .unset, .unset] [(.ref b_103)])) _
    refine st105.trans ?_
    show Steps pg.tables ev below (T105.setTop (mkF mi 14 #[.val (.int xi), .val (.int p), .val (.ref b_103), .unset, .unset, .unset, .unset] [(.ref x_105)])) _
    refine XS.astoreN X105.here hx rfl (hb hby at_14) rfl rfl (l' := #[.val (.int xi), .val (.int p), .val (.ref b_103), .val (.ref x_105), .unset, .unset, .unset]) rfl ?_
    show Steps pg.tables ev below (T105.setTop (mkF mi 15 #[.val (.int xi), .val (.int p), .val (.ref b_103), .val (.ref x_105), .unset, .unset, .unset] [])) _
    refine XS.iloadN X105.here hx rfl (hb hby at_15) rfl ?_
    show Steps pg.tables ev below (T105.setTop (mkF mi 16 #[.val (.int xi), .val (.int p), .val (.ref b_103), .val (.ref x_105), .unset, .unset, .unset] [(.int p)])) _
    refine st107 _ ?_
    show Steps pg.tables ev below (T107.setTop (mkF mi 19 #[.val (.int xi), .val (.int p), .val (.ref b_103), .val (.ref x_105), .unset, .unset, .unset] [(.int (digF p))])) _
    refine XS.istore X107.here hx rfl (hb hby at_19) rfl (l' := #[.val (.int xi), .val (.int p), .val (.ref b_103), .val (.ref x_105), .val (.int (digF p)), .unset, .unset]) rfl ?_
    show Steps pg.tables ev below (T107.setTop (mkF mi 21 #[.val (.int xi), .val (.int p), .val (.ref b_103), .val (.ref x_105), .val (.int (digF p)), .unset, .unset] [])) _
    refine XS.iloadN X107.here hx rfl (hb hby at_21) rfl ?_
    show Steps pg.tables ev below (T107.setTop (mkF mi 22 #[.val (.int xi), .val (.int p), .val (.ref b_103), .val (.ref x_105), .val (.int (digF p)), .unset, .unset] [(.int p)])) _
    refine XS.iload X107.here hx rfl (hb hby at_22) rfl ?_
    show Steps pg.tables ev below (T107.setTop (mkF mi 24 #[.val (.int xi), .val (.int p), .val (.ref b_103), .val (.ref x_105), .val (.int (digF p)), .unset, .unset] [(.int (digF p)), (.int p)])) _
    refine XS.iconst X107.here hx rfl (hb hby at_24) ?_
    show Steps pg.tables ev below (T107.setTop (mkF mi 25 #[.val (.int xi), .val (.int p), .val (.ref b_103), .val (.ref x_105), .val (.int (digF p)), .unset, .unset] [(.int (1 : Int32)), (.int (digF p)), (.int p)])) _
    refine XS.isub X107.here hx rfl (hb hby at_25) rfl ?_
    show Steps pg.tables ev below (T107.setTop (mkF mi 26 #[.val (.int xi), .val (.int p), .val (.ref b_103), .val (.ref x_105), .val (.int (digF p)), .unset, .unset] [(.int ((digF p) - (1 : Int32))), (.int p)])) _
    refine st108 _ ?_
    show Steps pg.tables ev below (T108.setTop (mkF mi 29 #[.val (.int xi), .val (.int p), .val (.ref b_103), .val (.ref x_105), .val (.int (digF p)), .unset, .unset] [(.int (powF ((digF p) - (1 : Int32)))), (.int p)])) _
    refine XS.idiv X108.here hx rfl (hb hby at_29) rfl (own_pow_nz hp) ?_
    show Steps pg.tables ev below (T108.setTop (mkF mi 30 #[.val (.int xi), .val (.int p), .val (.ref b_103), .val (.ref x_105), .val (.int (digF p)), .unset, .unset] [(.int (p / (powF ((digF p) - (1 : Int32)))))])) _
    refine XS.istore X108.here hx rfl (hb hby at_30) rfl (l' := #[.val (.int xi), .val (.int p), .val (.ref b_103), .val (.ref x_105), .val (.int (digF p)), .val (.int (p / (powF ((digF p) - (1 : Int32))))), .unset]) rfl ?_
    show Steps pg.tables ev below (T108.setTop (mkF mi 32 #[.val (.int xi), .val (.int p), .val (.ref b_103), .val (.ref x_105), .val (.int (digF p)), .val (.int (p / (powF ((digF p) - (1 : Int32))))), .unset] [])) _
    refine XS.iloadN X108.here hx rfl (hb hby at_32) rfl ?_
    show Steps pg.tables ev below (T108.setTop (mkF mi 33 #[.val (.int xi), .val (.int p), .val (.ref b_103), .val (.ref x_105), .val (.int (digF p)), .val (.int (p / (powF ((digF p) - (1 : Int32))))), .unset] [(.int p)])) _
    refine XS.bipush X108.here hx rfl (hb hby at_33) ?_
    show Steps pg.tables ev below (T108.setTop (mkF mi 35 #[.val (.int xi), .val (.int p), .val (.ref b_103), .val (.ref x_105), .val (.int (digF p)), .val (.int (p / (powF ((digF p) - (1 : Int32))))), .unset] [(.int (10 : Int32)), (.int p)])) _
    refine iremM X108 hx rfl (hb hby at_35) rfl (by decide) ?_
    show Steps pg.tables ev below (T108.setTop (mkF mi 36 #[.val (.int xi), .val (.int p), .val (.ref b_103), .val (.ref x_105), .val (.int (digF p)), .val (.int (p / (powF ((digF p) - (1 : Int32))))), .unset] [(.int (p % (10 : Int32)))])) _
    refine XS.istore X108.here hx rfl (hb hby at_36) rfl (l' := #[.val (.int xi), .val (.int p), .val (.ref b_103), .val (.ref x_105), .val (.int (digF p)), .val (.int (p / (powF ((digF p) - (1 : Int32))))), .val (.int (p % (10 : Int32)))]) rfl ?_
    show Steps pg.tables ev below (T108.setTop (mkF mi 38 #[.val (.int xi), .val (.int p), .val (.ref b_103), .val (.ref x_105), .val (.int (digF p)), .val (.int (p / (powF ((digF p) - (1 : Int32))))), .val (.int (p % (10 : Int32)))] [])) _
    refine XS.aloadN X108.here hx rfl (hb hby at_38) rfl rfl ?_
    show Steps pg.tables ev below (T108.setTop (mkF mi 39 #[.val (.int xi), .val (.int p), .val (.ref b_103), .val (.ref x_105), .val (.int (digF p)), .val (.int (p / (powF ((digF p) - (1 : Int32))))), .val (.int (p % (10 : Int32)))] [(.ref b_103)])) _
    refine st109 _ ?_
    show Steps pg.tables ev below (T109.setTop (mkF mi 42 #[.val (.int xi), .val (.int p), .val (.ref b_103), .val (.ref x_105), .val (.int (digF p)), .val (.int (p / (powF ((digF p) - (1 : Int32))))), .val (.int (p % (10 : Int32)))] [(.ref tr), (.ref b_103)])) _
    refine Jvm.RoadKit.acmp (g := (mkF mi 42 #[.val (.int xi), .val (.int p), .val (.ref b_103), .val (.ref x_105), .val (.int (digF p)), .val (.int (p / (powF ((digF p) - (1 : Int32))))), .val (.int (p % (10 : Int32)))] [(.ref tr), (.ref b_103)])) X109 hx rfl rfl rfl (pc0 := 42) (pc' := 45) (same := false) rfl (hb hby at_42) rfl (decide_eq_false (fun q => (Ne.symm ne_tr_b_103) (Value.ref.inj q))) (by decide) (by decide) ?_
    show Steps pg.tables ev below (T109.setTop (mkF mi 45 #[.val (.int xi), .val (.int p), .val (.ref b_103), .val (.ref x_105), .val (.int (digF p)), .val (.int (p / (powF ((digF p) - (1 : Int32))))), .val (.int (p % (10 : Int32)))] [])) _
    refine XS.aloadN X109.here hx rfl (hb hby at_45) rfl rfl ?_
    show Steps pg.tables ev below (T109.setTop (mkF mi 46 #[.val (.int xi), .val (.int p), .val (.ref b_103), .val (.ref x_105), .val (.int (digF p)), .val (.int (p / (powF ((digF p) - (1 : Int32))))), .val (.int (p % (10 : Int32)))] [(.ref b_103)])) _
    refine st110 _ ?_
    show Steps pg.tables ev below (T110.setTop (mkF mi 49 #[.val (.int xi), .val (.int p), .val (.ref b_103), .val (.ref x_105), .val (.int (digF p)), .val (.int (p / (powF ((digF p) - (1 : Int32))))), .val (.int (p % (10 : Int32)))] [(.ref fl), (.ref b_103)])) _
    refine Jvm.RoadKit.acmp (g := (mkF mi 49 #[.val (.int xi), .val (.int p), .val (.ref b_103), .val (.ref x_105), .val (.int (digF p)), .val (.int (p / (powF ((digF p) - (1 : Int32))))), .val (.int (p % (10 : Int32)))] [(.ref fl), (.ref b_103)])) X110 hx rfl rfl rfl (pc0 := 49) (pc' := 52) (same := false) rfl (hb hby at_49) rfl (decide_eq_false (fun q => (Ne.symm ne_fl_b_103) (Value.ref.inj q))) (by decide) (by decide) ?_
    show Steps pg.tables ev below (T110.setTop (mkF mi 52 #[.val (.int xi), .val (.int p), .val (.ref b_103), .val (.ref x_105), .val (.int (digF p)), .val (.int (p / (powF ((digF p) - (1 : Int32))))), .val (.int (p % (10 : Int32)))] [])) _
    refine XS.aloadN X110.here hx rfl (hb hby at_52) rfl rfl ?_
    show Steps pg.tables ev below (T110.setTop (mkF mi 53 #[.val (.int xi), .val (.int p), .val (.ref b_103), .val (.ref x_105), .val (.int (digF p)), .val (.int (p / (powF ((digF p) - (1 : Int32))))), .val (.int (p % (10 : Int32)))] [(.ref b_103)])) _
    refine st113.trans ?_
    show Steps pg.tables ev below (T113.setTop (mkF mi 56 #[.val (.int xi), .val (.int p), .val (.ref b_103), .val (.ref x_105), .val (.int (digF p)), .val (.int (p / (powF ((digF p) - (1 : Int32))))), .val (.int (p % (10 : Int32)))] [(.int p)])) _
    refine XS.iloadN X113.here hx rfl (hb hby at_56) rfl ?_
    show Steps pg.tables ev below (T113.setTop (mkF mi 57 #[.val (.int xi), .val (.int p), .val (.ref b_103), .val (.ref x_105), .val (.int (digF p)), .val (.int (p / (powF ((digF p) - (1 : Int32))))), .val (.int (p % (10 : Int32)))] [(.int p), (.int p)])) _
    refine XS.icmpNo X113.here hx rfl (hb hby at_57) rfl (teq (rfl : p = p)).2 ?_
    show Steps pg.tables ev below (T113.setTop (mkF mi 60 #[.val (.int xi), .val (.int p), .val (.ref b_103), .val (.ref x_105), .val (.int (digF p)), .val (.int (p / (powF ((digF p) - (1 : Int32))))), .val (.int (p % (10 : Int32)))] [])) _
    refine XS.aloadN X113.here hx rfl (hb hby at_60) rfl rfl ?_
    show Steps pg.tables ev below (T113.setTop (mkF mi 61 #[.val (.int xi), .val (.int p), .val (.ref b_103), .val (.ref x_105), .val (.int (digF p)), .val (.int (p / (powF ((digF p) - (1 : Int32))))), .val (.int (p % (10 : Int32)))] [(.ref x_105)])) _
    refine st117.trans ?_
    show Steps pg.tables ev below (T117.setTop (mkF mi 64 #[.val (.int xi), .val (.int p), .val (.ref b_103), .val (.ref x_105), .val (.int (digF p)), .val (.int (p / (powF ((digF p) - (1 : Int32))))), .val (.int (p % (10 : Int32)))] [(.int (Int32.ofNat (dch p.toNatClampNeg).length))])) _
    refine XS.iload X117.here hx rfl (hb hby at_64) rfl ?_
    show Steps pg.tables ev below (T117.setTop (mkF mi 66 #[.val (.int xi), .val (.int p), .val (.ref b_103), .val (.ref x_105), .val (.int (digF p)), .val (.int (p / (powF ((digF p) - (1 : Int32))))), .val (.int (p % (10 : Int32)))] [(.int (digF p)), (.int (Int32.ofNat (dch p.toNatClampNeg).length))])) _
    refine XS.icmpNo X117.here hx rfl (hb hby at_66) rfl (teq (own_len hp)).2 ?_
    show Steps pg.tables ev below (T117.setTop (mkF mi 69 #[.val (.int xi), .val (.int p), .val (.ref b_103), .val (.ref x_105), .val (.int (digF p)), .val (.int (p / (powF ((digF p) - (1 : Int32))))), .val (.int (p % (10 : Int32)))] [])) _
    refine XS.aloadN X117.here hx rfl (hb hby at_69) rfl rfl ?_
    show Steps pg.tables ev below (T117.setTop (mkF mi 70 #[.val (.int xi), .val (.int p), .val (.ref b_103), .val (.ref x_105), .val (.int (digF p)), .val (.int (p / (powF ((digF p) - (1 : Int32))))), .val (.int (p % (10 : Int32)))] [(.ref x_105)])) _
    refine XS.iconst X117.here hx rfl (hb hby at_70) ?_
    show Steps pg.tables ev below (T117.setTop (mkF mi 71 #[.val (.int xi), .val (.int p), .val (.ref b_103), .val (.ref x_105), .val (.int (digF p)), .val (.int (p / (powF ((digF p) - (1 : Int32))))), .val (.int (p % (10 : Int32)))] [(.int (0 : Int32)), (.ref x_105)])) _
    refine st118.trans ?_
    show Steps pg.tables ev below (T118.setTop (mkF mi 74 #[.val (.int xi), .val (.int p), .val (.ref b_103), .val (.ref x_105), .val (.int (digF p)), .val (.int (p / (powF ((digF p) - (1 : Int32))))), .val (.int (p % (10 : Int32)))] [(.int ((dch p.toNatClampNeg).getD 0 0))])) _
    refine XS.bipush X118.here hx rfl (hb hby at_74) ?_
    show Steps pg.tables ev below (T118.setTop (mkF mi 76 #[.val (.int xi), .val (.int p), .val (.ref b_103), .val (.ref x_105), .val (.int (digF p)), .val (.int (p / (powF ((digF p) - (1 : Int32))))), .val (.int (p % (10 : Int32)))] [(.int (48 : Int32)), (.int ((dch p.toNatClampNeg).getD 0 0))])) _
    refine XS.iload X118.here hx rfl (hb hby at_76) rfl ?_
    show Steps pg.tables ev below (T118.setTop (mkF mi 78 #[.val (.int xi), .val (.int p), .val (.ref b_103), .val (.ref x_105), .val (.int (digF p)), .val (.int (p / (powF ((digF p) - (1 : Int32))))), .val (.int (p % (10 : Int32)))] [(.int (p / (powF ((digF p) - (1 : Int32))))), (.int (48 : Int32)), (.int ((dch p.toNatClampNeg).getD 0 0))])) _
    refine XS.iadd X118.here hx rfl (hb hby at_78) rfl ?_
    show Steps pg.tables ev below (T118.setTop (mkF mi 79 #[.val (.int xi), .val (.int p), .val (.ref b_103), .val (.ref x_105), .val (.int (digF p)), .val (.int (p / (powF ((digF p) - (1 : Int32))))), .val (.int (p % (10 : Int32)))] [(.int ((48 : Int32) + (p / (powF ((digF p) - (1 : Int32)))))), (.int ((dch p.toNatClampNeg).getD 0 0))])) _
    refine XS.i2c X118.here hx rfl (hb hby at_79) rfl ?_
    show Steps pg.tables ev below (T118.setTop (mkF mi 80 #[.val (.int xi), .val (.int p), .val (.ref b_103), .val (.ref x_105), .val (.int (digF p)), .val (.int (p / (powF ((digF p) - (1 : Int32))))), .val (.int (p % (10 : Int32)))] [(.int (((48 : Int32) + (p / (powF ((digF p) - (1 : Int32))))).toUInt32.toUInt16.toUInt32.toInt32)), (.int ((dch p.toNatClampNeg).getD 0 0))])) _
    refine XS.icmpNo X118.here hx rfl (hb hby at_80) rfl (teq (own_first hp)).2 ?_
    show Steps pg.tables ev below (T118.setTop (mkF mi 83 #[.val (.int xi), .val (.int p), .val (.ref b_103), .val (.ref x_105), .val (.int (digF p)), .val (.int (p / (powF ((digF p) - (1 : Int32))))), .val (.int (p % (10 : Int32)))] [])) _
    refine XS.aloadN X118.here hx rfl (hb hby at_83) rfl rfl ?_
    show Steps pg.tables ev below (T118.setTop (mkF mi 84 #[.val (.int xi), .val (.int p), .val (.ref b_103), .val (.ref x_105), .val (.int (digF p)), .val (.int (p / (powF ((digF p) - (1 : Int32))))), .val (.int (p % (10 : Int32)))] [(.ref x_105)])) _
    refine XS.iload X118.here hx rfl (hb hby at_84) rfl ?_
    show Steps pg.tables ev below (T118.setTop (mkF mi 86 #[.val (.int xi), .val (.int p), .val (.ref b_103), .val (.ref x_105), .val (.int (digF p)), .val (.int (p / (powF ((digF p) - (1 : Int32))))), .val (.int (p % (10 : Int32)))] [(.int (digF p)), (.ref x_105)])) _
    refine XS.iconst X118.here hx rfl (hb hby at_86) ?_
    show Steps pg.tables ev below (T118.setTop (mkF mi 87 #[.val (.int xi), .val (.int p), .val (.ref b_103), .val (.ref x_105), .val (.int (digF p)), .val (.int (p / (powF ((digF p) - (1 : Int32))))), .val (.int (p % (10 : Int32)))] [(.int (1 : Int32)), (.int (digF p)), (.ref x_105)])) _
    refine XS.isub X118.here hx rfl (hb hby at_87) rfl ?_
    show Steps pg.tables ev below (T118.setTop (mkF mi 88 #[.val (.int xi), .val (.int p), .val (.ref b_103), .val (.ref x_105), .val (.int (digF p)), .val (.int (p / (powF ((digF p) - (1 : Int32))))), .val (.int (p % (10 : Int32)))] [(.int ((digF p) - (1 : Int32))), (.ref x_105)])) _
    refine st119.trans ?_
    show Steps pg.tables ev below (T119.setTop (mkF mi 91 #[.val (.int xi), .val (.int p), .val (.ref b_103), .val (.ref x_105), .val (.int (digF p)), .val (.int (p / (powF ((digF p) - (1 : Int32))))), .val (.int (p % (10 : Int32)))] [(.int ((dch p.toNatClampNeg).getD (Jvm.Free.SBG.digits p.toNatClampNeg - 1) 0))])) _
    refine XS.bipush X119.here hx rfl (hb hby at_91) ?_
    show Steps pg.tables ev below (T119.setTop (mkF mi 93 #[.val (.int xi), .val (.int p), .val (.ref b_103), .val (.ref x_105), .val (.int (digF p)), .val (.int (p / (powF ((digF p) - (1 : Int32))))), .val (.int (p % (10 : Int32)))] [(.int (48 : Int32)), (.int ((dch p.toNatClampNeg).getD (Jvm.Free.SBG.digits p.toNatClampNeg - 1) 0))])) _
    refine XS.iload X119.here hx rfl (hb hby at_93) rfl ?_
    show Steps pg.tables ev below (T119.setTop (mkF mi 95 #[.val (.int xi), .val (.int p), .val (.ref b_103), .val (.ref x_105), .val (.int (digF p)), .val (.int (p / (powF ((digF p) - (1 : Int32))))), .val (.int (p % (10 : Int32)))] [(.int (p % (10 : Int32))), (.int (48 : Int32)), (.int ((dch p.toNatClampNeg).getD (Jvm.Free.SBG.digits p.toNatClampNeg - 1) 0))])) _
    refine XS.iadd X119.here hx rfl (hb hby at_95) rfl ?_
    show Steps pg.tables ev below (T119.setTop (mkF mi 96 #[.val (.int xi), .val (.int p), .val (.ref b_103), .val (.ref x_105), .val (.int (digF p)), .val (.int (p / (powF ((digF p) - (1 : Int32))))), .val (.int (p % (10 : Int32)))] [(.int ((48 : Int32) + (p % (10 : Int32)))), (.int ((dch p.toNatClampNeg).getD (Jvm.Free.SBG.digits p.toNatClampNeg - 1) 0))])) _
    refine XS.i2c X119.here hx rfl (hb hby at_96) rfl ?_
    show Steps pg.tables ev below (T119.setTop (mkF mi 97 #[.val (.int xi), .val (.int p), .val (.ref b_103), .val (.ref x_105), .val (.int (digF p)), .val (.int (p / (powF ((digF p) - (1 : Int32))))), .val (.int (p % (10 : Int32)))] [(.int (((48 : Int32) + (p % (10 : Int32))).toUInt32.toUInt16.toUInt32.toInt32)), (.int ((dch p.toNatClampNeg).getD (Jvm.Free.SBG.digits p.toNatClampNeg - 1) 0))])) _
    refine XS.icmpNo X119.here hx rfl (hb hby at_97) rfl (teq (own_last hp)).2 ?_
    show Steps pg.tables ev below (T119.setTop (mkF mi 100 #[.val (.int xi), .val (.int p), .val (.ref b_103), .val (.ref x_105), .val (.int (digF p)), .val (.int (p / (powF ((digF p) - (1 : Int32))))), .val (.int (p % (10 : Int32)))] [])) _
    refine XS.iconst X119.here hx rfl (hb hby at_100) ?_
    show Steps pg.tables ev below (T119.setTop (mkF mi 101 #[.val (.int xi), .val (.int p), .val (.ref b_103), .val (.ref x_105), .val (.int (digF p)), .val (.int (p / (powF ((digF p) - (1 : Int32))))), .val (.int (p % (10 : Int32)))] [(.int (1 : Int32))])) _
    refine XS.goto X119.here hx rfl (pc0 := 101) (pc' := 105) rfl (hb hby at_101) (by decide) (by decide) ?_
    show Steps pg.tables ev below (T119.setTop (mkF mi 105 #[.val (.int xi), .val (.int p), .val (.ref b_103), .val (.ref x_105), .val (.int (digF p)), .val (.int (p / (powF ((digF p) - (1 : Int32))))), .val (.int (p % (10 : Int32)))] [(.int (1 : Int32))])) _
    exact retN X119 hx (t := .boolean) Bd.returns (by simp) (hb hby at_105) hr
  · show Q_law Z xi k w el ke tr fl zc fm sg d1 D1 d2 D2 hE n0 _ T119.heap _
    rw [ek119]
    exact ⟨rfl, N119⟩
theorem own_empty {s : State} {args : Array Value} {t : Term} {a : Addr} {c : Cell} {ty : FieldType} (hf : Fit s) (A : Arr s s.heap a c ty) (et : t.eval args s none [] s = some (.ref a)) (h : (Jvm.Cond.eq (.length t) (.int (0 : Int32))).before args s = true) : Arv s s.heap a c.cls ty (0 : Int32) [] .null := by
  have hl := Cond.eq_int h rfl
  obtain ⟨a', c', e1, e2, -⟩ := Term.length_spec hl
  cases et.symm.trans e1
  obtain ⟨q1, -⟩ := State.arrayAt?_spec e2
  cases A.1.symm.trans q1
  have h31 := Jvm.Free.SBG.length_lt et e2 hl
  have e3 : (Term.length t).eval args s none [] s = some (.int c.slots.size.toInt32) := len_f et e2 h31
  have e4 : c.slots.size.toInt32 = (0 : Int32) := Value.int.inj (Option.some.inj (e3.symm.trans hl))
  exact Arv.start hf A h31 e4 (by decide) rfl trivial
set_option maxRecDepth 65536 in
set_option maxHeartbeats 40000000 in
theorem comes_1 {Post : Tables → Env → Array Value → State → Outcome → State → Prop} (hpost : ∀ tb e args s v u, (limb_1_1.after args s (.returned v) u = true ∧ limb_1_2.after args s (.returned v) u = true ∧ True) → FrameEnd s (.returned v) u (Jvm.fieldLocs frame_1_writes args s ++ Jvm.arrayLocs frame_1_arrays args s ++ Jvm.staticLocs frame_1_statics s) 16 128 → Post tb e args s (.returned v) u) :
    ArmFor flags0 classFile x code maxLocals ret World_1 tables_1 room_1 Calls_1 rest_1 Pre_1 Post := by
  intro l hfl _ _ p e ha hcf hk s m args below hf hA hF happ hP
  obtain ⟨hcalls, hrest, hpre⟩ := hP
  obtain ⟨-, -, -, hnamed, -, -, -, hat⟩ := (Spec.applies_iff hf).mp happ
  obtain ⟨hg, hn⟩ := and_e (Cond.before_iff.mp (show (Jvm.Cond.and given_1 narrow_1).before args s = true from hpre))
  obtain ⟨hcnt, hg⟩ := and_e hg
  have ha0 := hg
  obtain ⟨w0, rfl⟩ : ∃ w0 : Value, args = #[w0] := by
    have hs : args.size = 1 := by simpa [Cond.value, given_1] using hcnt
    obtain ⟨L⟩ := args
    match L, hs with
    | [w0], _ => exact ⟨w0, rfl⟩
  have hw := fun d (hd : d ∈ tables_1) => atoms_spec (ws := Jvm.Cond.code x code maxLocals ret :: tables_1) hat d (List.mem_cons_of_mem _ hd)
  have hfit : Fit s := fun {y c} hc i hi => by
    obtain ⟨ha, rfl⟩ := Array.getElem?_eq_some_iff.mp hc
    have q := List.all_eq_true.mp ((Array.all_eq_true_iff_forall_mem.mp hF) _ (Array.getElem_mem ha)) i (List.mem_range.mpr hi)
    simpa [Array.getElem?_eq_getElem hi] using q
  obtain ⟨hsets, hown0⟩ := atoms_of _ (rest_1_c_eq ▸ (show rest_1_c.before _ s = true from hrest))
  obtain ⟨i0, ei0⟩ := is_v ha0
  obtain rfl : w0 = (.int i0) := Option.some.inj ei0
  obtain ⟨hn1, hn⟩ := and_e hn
  obtain ⟨hn2, hn⟩ := and_e hn
  obtain ⟨hn3, hn4⟩ := and_e hn
  obtain ⟨aK, eK⟩ := exa_v hn1
  obtain ⟨aT, eT⟩ := exa_v hn3
  obtain ⟨aF, eF⟩ := exa_v hn4
  have sK := Sta.start eK (Or.inr ⟨(wd8 hw), (wd9 hw)⟩)
  have sT := Sta.start eT (Or.inr ⟨(wd3 hw), (wd75 hw)⟩)
  have sF := Sta.start eF (Or.inr ⟨(wd3 hw), (wd77 hw)⟩)
  have fK := Fld.start ((fld_at eK).symm.trans (Cond.eq_int (Cond.before_iff.mpr hn2) rfl))
  have hset := fun i (c : Jvm.Cond) (h : jdkStatics_1[i]? = some c) => hsets c (List.mem_of_getElem? h)
  obtain ⟨aE, eE⟩ := exa_v (Cond.before_iff.mp (hset 2 _ rfl))
  have sE := Sta.start eE (Or.inl (hset 1 _ rfl))
  obtain ⟨aL, eL⟩ := exa_v (Cond.before_iff.mp (hset 4 _ rfl))
  have fE := Fld.start ((fld_at eE).symm.trans eL)
  obtain ⟨cL, aL'⟩ := Arr.start eL (Cond.before_iff.mp (hset 3 _ rfl))
  have vL : Arv s s.heap aL cL.cls (.object "java/lang/Object") (0 : Int32) [] .null := own_empty hfit aL' eL (hset 5 _ rfl)
  obtain ⟨iz, ez⟩ := is_v (Cond.before_iff.mp (hset 8 _ rfl))
  have sz := Sta.start ez (Or.inl (hset 7 _ rfl))
  have hz : ¬ (iz = (0 : Int32)) := fun q => by
    have h9 := not_v (Cond.before_iff.mp (hset 9 _ rfl))
    rw [eq_i ez (Term.int_eval (0 : Int32)) (by rw [q])] at h9
    exact absurd h9 (by simp)
  obtain ⟨vf, ef, rf⟩ := isR_v (Cond.before_iff.mp (hset 15 _ rfl))
  have sf := Sta.start ef (Or.inl (hset 14 _ rfl))
  obtain ⟨sg, d1, D1, d2, D2, hT1, hO1, hT2, hO2⟩ := Jvm.SetKit.digits_of hfit (wd51 hw) (wd44 hw) (hset 17 _ rfl) (hset 19 _ rfl) (hset 20 _ rfl) (hset 21 _ rfl) (hset 22 _ rfl) (hset 24 _ rfl) (hset 25 _ rfl) (hset 26 _ rfl)
  obtain ⟨n, o, h1, h2, h3, _, L, rfl, ⟨rfl, N⟩, hq⟩ := rm_law l s _ hw tables_1 i0 aK aE aL cL.cls aT aF iz vf sg d1 D1 d2 D2 s.heap s.heap.size (Old.start s) sK (Exa.start eK hn1) fK sE (Exa.start eE (Cond.before_iff.mp (hset 2 _ rfl))) fE vL sT (Exa.start eT hn3) sF (Exa.start eF hn4) sz sf hz rf hT1 hT2 hO1 hO2 p e ha hcf hk s m _ below hf ((Spec.applies_iff_loose hf).mp happ).1 ⟨rfl, State.Warmed39.refl s, rfl⟩ trivial
  refine ⟨n, _, h1, h2, h3, hpost _ _ _ _ _ _ ⟨Cond.after_iff.mpr rfl, Cond.after_iff.mpr (eq_i res_at (Term.int_eval (1)) rfl), trivial⟩ ⟨hq.1, hq.2.1, (hq.2.2.sift fun y hy => Or.inr (N y hy)).mono (by decide) (by decide)⟩⟩
theorem main_1_1 : Claimed_1_1 := comes_1 fun _ _ _ _ _ _ h hF => ⟨h.1, hF⟩
theorem main_1_2 : Claimed_1_2 := comes_1 fun _ _ _ _ _ _ h hF => ⟨h.2.1, hF⟩

end Jvm.Pilot.@@N@@
namespace Jvm.Pilot.@@N@@
open Jvm Jvm.ClassFile Sem Op Lib Jvm.Free Jvm.Stand Jvm.Pilot.@@N@@.Jvm.D
/-! MADE BY PROGRAM (witnessworld.py) out of the Statement's table words and the real class files: 35 classes; the members and pool entries that the words name. The judged class is class 1, her method 1. -/
namespace start1
open Jvm.ClassFile
def u (s : String) : CpInfo := .utf8 (stringToUtf16 s)
/-- a pool by its gaps: so many unusable entries, then the entry; so many at the end -/
def gap : Nat → List CpInfo → List CpInfo
  | 0, r => r
  | n + 1, r => .unusable :: gap n r
def poolList (es : List (Nat × CpInfo)) (last : Nat) : List CpInfo := es.foldr (fun e r => gap e.1 (e.2 :: r)) (gap last [])
def pool (es : List (Nat × CpInfo)) (last : Nat) : Array CpInfo := ⟨poolList es last⟩
def fileOf (pool : Array CpInfo) (this : Nat) (attrs : Array Attribute := #[]) (ms : Array MethodInfo := #[]) (fl : Nat := 33) (sup : Nat := 0) (ifs : Array Nat := #[]) (fds : Array FieldInfo := #[]) : ClassFile where
  minorVersion := 0
  majorVersion := 65
  constantPool := pool
  accessFlags := fl
  thisClass := this
  superClass := sup
  interfaces := ifs
  fields := fds
  methods := ms
  attributes := attrs
def plain (name : String) (sup : Option ClassId) : Class where
  name := name
  kind := .ordinary
  loader := none
  accessFlags := 33
  super := sup
  interfaces := #[]
  cf := none
  fields := #[]
  methods := #[]
  instanceTypes := #[]
  staticTypes := #[]
  resolved := #[]
  callSites := []
  init := .initialized
  statics := none
  mirror := none

def pool0 : Array CpInfo := pool [(5, u "<init>"), (0, u "()V"), (1, .class_ 10), (1, u "java/lang/Object")] 113

def k0c0 : Code := { maxStack := 0, maxLocals := 1, code := object_method_1_code, exceptionTable := #[], attributes := #[] }
def k0m0 : Method := { name := "<init>", desc := "()V", sig := { parameters := [], returnType := none }, accessFlags := 1, code := some k0c0 }
/-- java/lang/Object -/
def k0 : Class := { plain "java/lang/Object" none with
  accessFlags := 33
  interfaces := #[]
  cf := some (fileOf pool0 8 #[] #[{ accessFlags := 1, nameIndex := 5, descriptorIndex := 6, attributes := #[] }] 33 0 #[] #[])
  fields := #[]
  methods := #[k0m0]
  instanceTypes := #[]
  staticTypes := #[]
  resolved := Array.replicate 124 none
  statics := none }

def pool1 : Array CpInfo := pool [(2, .class_ 4), (1, u "java/lang/Object"), (0, u "<init>"), (0, u "()V"), (0, .integer 2147483647), (0, .methodref 9 10), (0, .class_ 11), (0, .nameAndType 12 13), (0, u "com/example/endless_runs/endlessruns/automaton/Label"), (0, u "proposition"), (0, u "(I)Lcom/example/endless_runs/endlessruns/automaton/Label;"), (0, .methodref 9 15), (0, .nameAndType 16 17), (0, u "toString"), (0, u "()Ljava/lang/String;"), (0, .methodref 19 20), (0, .class_ 21), (0, .nameAndType 22 23), (0, u "com/example/endless_runs/endlessruns/automaton/LabelPropositionPinLaw"), (0, u "digits"), (0, u "(I)I"), (0, .methodref 19 25), (0, .nameAndType 26 23), (0, u "pow10"), (0, .fieldref 9 28), (0, .nameAndType 29 30), (0, u "TRUE"), (0, u "Lcom/example/endless_runs/endlessruns/automaton/Label;"), (0, .fieldref 9 32), (0, .nameAndType 33 30), (0, u "FALSE"), (0, .methodref 9 35), (0, .nameAndType 36 37), (0, u "getLargestProposition"), (0, u "()I"), (0, .methodref 39 40), (0, .class_ 41), (0, .nameAndType 42 37), (0, u "java/lang/String"), (0, u "length"), (0, .methodref 39 44), (0, .nameAndType 45 46), (0, u "charAt"), (0, u "(I)C"), (0, .integer 100000), (0, .integer 1000000), (0, .integer 10000000), (0, .integer 100000000), (0, .integer 1000000000), (2, u "law"), (0, u "(I)Z")] 3

def k1m0 : Method := { name := "<init>", desc := "()V", sig := { parameters := [], returnType := none }, accessFlags := 1, code := none }
def k1c1 : Code := { maxStack := 3, maxLocals := 7, code := code, exceptionTable := #[], attributes := #[] }
def k1m1 : Method := { name := "law", desc := "(I)Z", sig := { parameters := [.int], returnType := some .boolean }, accessFlags := 9, code := some k1c1 }
def k1c2 : Code := { maxStack := 2, maxLocals := 1, code := method_3_code, exceptionTable := #[], attributes := #[] }
def k1m2 : Method := { name := "digits", desc := "(I)I", sig := { parameters := [.int], returnType := some .int }, accessFlags := 10, code := some k1c2 }
def k1c3 : Code := { maxStack := 2, maxLocals := 1, code := method_4_code, exceptionTable := #[], attributes := #[] }
def k1m3 : Method := { name := "pow10", desc := "(I)I", sig := { parameters := [.int], returnType := some .int }, accessFlags := 10, code := some k1c3 }
/-- com/example/endless_runs/endlessruns/automaton/LabelPropositionPinLaw -/
def k1 : Class := { plain "com/example/endless_runs/endlessruns/automaton/LabelPropositionPinLaw" (some 0) with
  accessFlags := 49
  interfaces := #[]
  cf := some (fileOf pool1 19 #[] #[{ accessFlags := 1, nameIndex := 5, descriptorIndex := 6, attributes := #[] }, { accessFlags := 9, nameIndex := 54, descriptorIndex := 55, attributes := #[] }, { accessFlags := 10, nameIndex := 22, descriptorIndex := 23, attributes := #[] }, { accessFlags := 10, nameIndex := 26, descriptorIndex := 23, attributes := #[] }] 49 2 #[] #[])
  fields := #[]
  methods := #[k1m0, k1m1, k1m2, k1m3]
  instanceTypes := #[]
  staticTypes := #[]
  resolved := Array.replicate 59 none
  statics := none }

def pool2 : Array CpInfo := pool [(1, .methodref 2 3), (0, .class_ 4), (0, .nameAndType 5 6), (0, u "java/lang/Object"), (0, u "<init>"), (0, u "()V"), (0, .fieldref 8 9), (0, .class_ 10), (0, .nameAndType 11 12), (0, u "com/example/endless_runs/endlessruns/automaton/Label"), (0, u "kind"), (0, u "Lcom/example/endless_runs/endlessruns/automaton/Label$Kind;"), (0, .fieldref 8 14), (0, .nameAndType 15 16), (0, u "proposition"), (0, u "I"), (0, .fieldref 8 18), (0, .nameAndType 19 20), (0, u "operands"), (0, u "Ljava/util/List;"), (5, u "(I)Ljava/lang/String;"), (3, .fieldref 31 32), (0, .class_ 33), (0, .nameAndType 34 12), (0, u "com/example/endless_runs/endlessruns/automaton/Label$Kind"), (0, u "PROPOSITION"), (0, .interfaceMethodref 36 37), (0, .class_ 38), (0, .nameAndType 39 40), (0, u "java/util/List"), (0, u "of"), (0, u "()Ljava/util/List;"), (0, .methodref 8 42), (0, .nameAndType 5 43), (0, u "(Lcom/example/endless_runs/endlessruns/automaton/Label$Kind;ILjava/util/List;)V"), (37, u "(I)Lcom/example/endless_runs/endlessruns/automaton/Label;"), (17, u "()Z"), (3, u "()I"), (4, .interfaceMethodref 36 109), (0, .nameAndType 110 111), (0, u "iterator"), (0, u "()Ljava/util/Iterator;"), (0, .interfaceMethodref 113 114), (0, .class_ 115), (0, .nameAndType 116 99), (0, u "java/util/Iterator"), (0, u "hasNext"), (4, .methodref 8 122), (0, .nameAndType 123 103), (0, u "getLargestProposition"), (19, .methodref 31 144), (0, .nameAndType 145 103), (0, u "ordinal"), (9, .methodref 156 157), (0, .class_ 158), (0, .nameAndType 159 26), (0, u "java/lang/Integer"), (0, u "toString"), (34, u "TRUE"), (0, u "Lcom/example/endless_runs/endlessruns/automaton/Label;"), (2, u "FALSE"), (58, u "WORD_PATTERNS"), (0, u "[J"), (18, u "()Ljava/lang/String;")] 94

def k2c0 : Code := { maxStack := 2, maxLocals := 4, code := prog_19_method_1_code, exceptionTable := #[], attributes := #[] }
def k2m0 : Method := { name := "<init>", desc := "(Lcom/example/endless_runs/endlessruns/automaton/Label$Kind;ILjava/util/List;)V", sig := { parameters := [(.object "com/example/endless_runs/endlessruns/automaton/Label$Kind"), .int, (.object "java/util/List")], returnType := none }, accessFlags := 2, code := some k2c0 }
def k2c1 : Code := { maxStack := 5, maxLocals := 1, code := prog_19_method_2_code, exceptionTable := #[], attributes := #[] }
def k2m1 : Method := { name := "proposition", desc := "(I)Lcom/example/endless_runs/endlessruns/automaton/Label;", sig := { parameters := [.int], returnType := some (.object "com/example/endless_runs/endlessruns/automaton/Label") }, accessFlags := 9, code := some k2c1 }
def k2c2 : Code := { maxStack := 2, maxLocals := 4, code := prog_19_method_8_code, exceptionTable := #[], attributes := #[] }
def k2m2 : Method := { name := "getLargestProposition", desc := "()I", sig := { parameters := [], returnType := some .int }, accessFlags := 1, code := some k2c2 }
def k2c3 : Code := { maxStack := 4, maxLocals := 2, code := prog_19_method_10_code, exceptionTable := #[], attributes := #[] }
def k2m3 : Method := { name := "toString", desc := "()Ljava/lang/String;", sig := { parameters := [], returnType := some (.object "java/lang/String") }, accessFlags := 1, code := some k2c3 }
/-- com/example/endless_runs/endlessruns/automaton/Label -/
def k2 : Class := { plain "com/example/endless_runs/endlessruns/automaton/Label" (some 0) with
  accessFlags := 49
  interfaces := #[]
  cf := some (fileOf pool2 8 #[.nestMembers #[31]] #[{ accessFlags := 2, nameIndex := 5, descriptorIndex := 43, attributes := #[] }, { accessFlags := 9, nameIndex := 15, descriptorIndex := 81, attributes := #[] }, { accessFlags := 1, nameIndex := 123, descriptorIndex := 103, attributes := #[] }, { accessFlags := 1, nameIndex := 159, descriptorIndex := 277, attributes := #[] }] 49 2 #[] #[{ accessFlags := 25, nameIndex := 194, descriptorIndex := 195, attributes := #[] }, { accessFlags := 25, nameIndex := 198, descriptorIndex := 195, attributes := #[] }, { accessFlags := 26, nameIndex := 257, descriptorIndex := 258, attributes := #[] }, { accessFlags := 18, nameIndex := 11, descriptorIndex := 12, attributes := #[] }, { accessFlags := 18, nameIndex := 15, descriptorIndex := 16, attributes := #[] }, { accessFlags := 18, nameIndex := 19, descriptorIndex := 20, attributes := #[] }])
  fields := #[{ name := "TRUE", type := (.object "com/example/endless_runs/endlessruns/automaton/Label"), accessFlags := 25, slot := 0, constantValue := 0 }, { name := "FALSE", type := (.object "com/example/endless_runs/endlessruns/automaton/Label"), accessFlags := 25, slot := 1, constantValue := 0 }, { name := "WORD_PATTERNS", type := (.array .long), accessFlags := 26, slot := 2, constantValue := 0 }, { name := "kind", type := (.object "com/example/endless_runs/endlessruns/automaton/Label$Kind"), accessFlags := 18, slot := 0, constantValue := 0 }, { name := "proposition", type := .int, accessFlags := 18, slot := 1, constantValue := 0 }, { name := "operands", type := (.object "java/util/List"), accessFlags := 18, slot := 2, constantValue := 0 }]
  methods := #[k2m0, k2m1, k2m2, k2m3]
  instanceTypes := #[(.object "com/example/endless_runs/endlessruns/automaton/Label$Kind"), .int, (.object "java/util/List")]
  staticTypes := #[(.object "com/example/endless_runs/endlessruns/automaton/Label"), (.object "com/example/endless_runs/endlessruns/automaton/Label"), (.array .long)]
  resolved := Array.replicate 372 none
  statics := some 0 }

def pool3 : Array CpInfo := pool [(1, .class_ 2), (0, u "java/lang/constant/Constable"), (0, .class_ 4), (0, u "java/lang/Object")] 6

/-- java/lang/constant/Constable -/
def k3 : Class := { plain "java/lang/constant/Constable" (some 0) with
  accessFlags := 1537
  interfaces := #[]
  cf := some (fileOf pool3 1 #[] #[] 1537 3 #[] #[])
  fields := #[]
  methods := #[]
  instanceTypes := #[]
  staticTypes := #[]
  resolved := Array.replicate 11 none
  statics := none }

def pool4 : Array CpInfo := pool [(1, .class_ 2), (0, u "java/lang/Comparable"), (0, .class_ 4), (0, u "java/lang/Object")] 7

/-- java/lang/Comparable -/
def k4 : Class := { plain "java/lang/Comparable" (some 0) with
  accessFlags := 1537
  interfaces := #[]
  cf := some (fileOf pool4 1 #[] #[] 1537 3 #[] #[])
  fields := #[]
  methods := #[]
  instanceTypes := #[]
  staticTypes := #[]
  resolved := Array.replicate 12 none
  statics := none }

def pool5 : Array CpInfo := pool [(1, .class_ 2), (0, u "java/io/Serializable"), (0, .class_ 4), (0, u "java/lang/Object")] 2

/-- java/io/Serializable -/
def k5 : Class := { plain "java/io/Serializable" (some 0) with
  accessFlags := 1537
  interfaces := #[]
  cf := some (fileOf pool5 1 #[] #[] 1537 3 #[] #[])
  fields := #[]
  methods := #[]
  instanceTypes := #[]
  staticTypes := #[]
  resolved := Array.replicate 7 none
  statics := none }

def pool6 : Array CpInfo := pool [(2, .class_ 4), (1, u "java/lang/Enum"), (0, u "name"), (0, u "Ljava/lang/String;"), (0, .fieldref 2 8), (0, .nameAndType 9 10), (0, u "ordinal"), (0, u "I"), (1, .class_ 14), (1, u "java/lang/Object"), (4, u "hash"), (86, .class_ 108), (1, u "java/lang/Enum$EnumDesc"), (2, .class_ 112), (0, u "java/lang/constant/Constable"), (0, .class_ 114), (0, u "java/lang/Comparable"), (0, .class_ 116), (0, u "java/io/Serializable"), (9, u "()I")] 77

def k6c0 : Code := { maxStack := 1, maxLocals := 1, code := jdk_37_method_2_code, exceptionTable := #[], attributes := #[] }
def k6m0 : Method := { name := "ordinal", desc := "()I", sig := { parameters := [], returnType := some .int }, accessFlags := 17, code := some k6c0 }
/-- java/lang/Enum -/
def k6 : Class := { plain "java/lang/Enum" (some 0) with
  accessFlags := 1057
  interfaces := #[3, 4, 5]
  cf := some (fileOf pool6 2 #[.nestMembers #[106]] #[{ accessFlags := 17, nameIndex := 9, descriptorIndex := 126, attributes := #[] }] 1057 12 #[111, 113, 115] #[{ accessFlags := 18, nameIndex := 5, descriptorIndex := 6, attributes := #[] }, { accessFlags := 18, nameIndex := 9, descriptorIndex := 10, attributes := #[] }, { accessFlags := 2, nameIndex := 19, descriptorIndex := 10, attributes := #[] }])
  fields := #[{ name := "name", type := (.object "java/lang/String"), accessFlags := 18, slot := 0, constantValue := 0 }, { name := "ordinal", type := .int, accessFlags := 18, slot := 1, constantValue := 0 }, { name := "hash", type := .int, accessFlags := 2, slot := 2, constantValue := 0 }]
  methods := #[k6m0]
  instanceTypes := #[(.object "java/lang/String"), .int, .int]
  staticTypes := #[]
  resolved := Array.replicate 204 none
  statics := none }

def pool7 : Array CpInfo := pool [(1, .class_ 2), (0, u "com/example/endless_runs/endlessruns/automaton/Label$Kind"), (2, u "TRUE"), (0, u "Lcom/example/endless_runs/endlessruns/automaton/Label$Kind;"), (2, u "FALSE"), (2, u "PROPOSITION"), (2, u "NOT"), (2, u "AND"), (2, u "OR"), (2, u "$VALUES"), (0, u "[Lcom/example/endless_runs/endlessruns/automaton/Label$Kind;"), (6, .class_ 34), (1, u "java/lang/Enum"), (29, .class_ 65), (0, u "com/example/endless_runs/endlessruns/automaton/Label")] 2

/-- com/example/endless_runs/endlessruns/automaton/Label$Kind -/
def k7 : Class := { plain "com/example/endless_runs/endlessruns/automaton/Label$Kind" (some 6) with
  accessFlags := 16433
  interfaces := #[]
  cf := some (fileOf pool7 1 #[.nestHost 64] #[] 16433 32 #[] #[{ accessFlags := 16409, nameIndex := 5, descriptorIndex := 6, attributes := #[] }, { accessFlags := 16409, nameIndex := 9, descriptorIndex := 6, attributes := #[] }, { accessFlags := 16409, nameIndex := 12, descriptorIndex := 6, attributes := #[] }, { accessFlags := 16409, nameIndex := 15, descriptorIndex := 6, attributes := #[] }, { accessFlags := 16409, nameIndex := 18, descriptorIndex := 6, attributes := #[] }, { accessFlags := 16409, nameIndex := 21, descriptorIndex := 6, attributes := #[] }, { accessFlags := 4122, nameIndex := 24, descriptorIndex := 25, attributes := #[] }])
  fields := #[{ name := "TRUE", type := (.object "com/example/endless_runs/endlessruns/automaton/Label$Kind"), accessFlags := 16409, slot := 0, constantValue := 0 }, { name := "FALSE", type := (.object "com/example/endless_runs/endlessruns/automaton/Label$Kind"), accessFlags := 16409, slot := 1, constantValue := 0 }, { name := "PROPOSITION", type := (.object "com/example/endless_runs/endlessruns/automaton/Label$Kind"), accessFlags := 16409, slot := 2, constantValue := 0 }, { name := "NOT", type := (.object "com/example/endless_runs/endlessruns/automaton/Label$Kind"), accessFlags := 16409, slot := 3, constantValue := 0 }, { name := "AND", type := (.object "com/example/endless_runs/endlessruns/automaton/Label$Kind"), accessFlags := 16409, slot := 4, constantValue := 0 }, { name := "OR", type := (.object "com/example/endless_runs/endlessruns/automaton/Label$Kind"), accessFlags := 16409, slot := 5, constantValue := 0 }, { name := "$VALUES", type := (.array (.object "com/example/endless_runs/endlessruns/automaton/Label$Kind")), accessFlags := 4122, slot := 6, constantValue := 0 }]
  methods := #[]
  instanceTypes := #[(.object "java/lang/String"), .int, .int]
  staticTypes := #[(.object "com/example/endless_runs/endlessruns/automaton/Label$Kind"), (.object "com/example/endless_runs/endlessruns/automaton/Label$Kind"), (.object "com/example/endless_runs/endlessruns/automaton/Label$Kind"), (.object "com/example/endless_runs/endlessruns/automaton/Label$Kind"), (.object "com/example/endless_runs/endlessruns/automaton/Label$Kind"), (.object "com/example/endless_runs/endlessruns/automaton/Label$Kind"), (.array (.object "com/example/endless_runs/endlessruns/automaton/Label$Kind"))]
  resolved := Array.replicate 68 none
  statics := some 1 }

def pool8 : Array CpInfo := pool [(8, .class_ 10), (1, u "java/lang/Iterable"), (24, .class_ 36), (0, u "java/lang/Object")] 25

/-- java/lang/Iterable -/
def k8 : Class := { plain "java/lang/Iterable" (some 0) with
  accessFlags := 1537
  interfaces := #[]
  cf := some (fileOf pool8 8 #[] #[] 1537 35 #[] #[])
  fields := #[]
  methods := #[]
  instanceTypes := #[]
  staticTypes := #[]
  resolved := Array.replicate 62 none
  statics := none }

def pool9 : Array CpInfo := pool [(10, .class_ 12), (1, u "java/util/Collection"), (47, .class_ 61), (0, u "java/lang/Object"), (0, .class_ 63), (0, u "java/lang/Iterable")] 51

/-- java/util/Collection -/
def k9 : Class := { plain "java/util/Collection" (some 0) with
  accessFlags := 1537
  interfaces := #[8]
  cf := some (fileOf pool9 10 #[] #[] 1537 60 #[62] #[])
  fields := #[]
  methods := #[]
  instanceTypes := #[]
  staticTypes := #[]
  resolved := Array.replicate 115 none
  statics := none }

def pool10 : Array CpInfo := pool [(8, .class_ 10), (1, u "java/util/SequencedCollection"), (15, .class_ 27), (0, u "java/lang/Object"), (0, .class_ 29), (0, u "java/util/Collection")] 27

/-- java/util/SequencedCollection -/
def k10 : Class := { plain "java/util/SequencedCollection" (some 0) with
  accessFlags := 1537
  interfaces := #[9]
  cf := some (fileOf pool10 8 #[] #[] 1537 26 #[28] #[])
  fields := #[]
  methods := #[]
  instanceTypes := #[]
  staticTypes := #[]
  resolved := Array.replicate 57 none
  statics := none }

def pool11 : Array CpInfo := pool [(8, .class_ 10), (1, u "java/util/List"), (77, u "of"), (1, .fieldref 91 92), (0, .class_ 93), (0, .nameAndType 94 95), (0, u "java/util/ImmutableCollections"), (0, u "EMPTY_LIST"), (0, u "Ljava/util/ImmutableCollections$ListN;"), (7, .class_ 104), (0, u "java/lang/Object"), (14, u "()Ljava/util/List;"), (0, .class_ 121), (0, u "java/util/SequencedCollection"), (1, u "iterator"), (0, u "()Ljava/util/Iterator;")] 126

def k11m0 : Method := { name := "iterator", desc := "()Ljava/util/Iterator;", sig := { parameters := [], returnType := some (.object "java/util/Iterator") }, accessFlags := 1025, code := none }
def k11c1 : Code := { maxStack := 1, maxLocals := 0, code := jdk_40_method_36_code, exceptionTable := #[], attributes := #[] }
def k11m1 : Method := { name := "of", desc := "()Ljava/util/List;", sig := { parameters := [], returnType := some (.object "java/util/List") }, accessFlags := 9, code := some k11c1 }
/-- java/util/List -/
def k11 : Class := { plain "java/util/List" (some 0) with
  accessFlags := 1537
  interfaces := #[10]
  cf := some (fileOf pool11 8 #[] #[{ accessFlags := 1025, nameIndex := 123, descriptorIndex := 124, attributes := #[] }, { accessFlags := 9, nameIndex := 88, descriptorIndex := 119, attributes := #[] }] 1537 103 #[120] #[])
  fields := #[]
  methods := #[k11m0, k11m1]
  instanceTypes := #[]
  staticTypes := #[]
  resolved := Array.replicate 251 none
  statics := none }

def pool12 : Array CpInfo := pool [(2, .class_ 4), (1, u "java/lang/Object"), (0, u "<init>"), (0, u "()V"), (3, .class_ 11), (0, u "java/util/ImmutableCollections$List12"), (0, .class_ 13), (0, u "java/util/ImmutableCollections$ListN"), (3, u "Z"), (29, .class_ 49), (1, u "java/util/ImmutableCollections"), (0, u "$assertionsDisabled"), (5, u "[Ljava/lang/Object;"), (5, u "EMPTY_LIST"), (0, u "Ljava/util/ImmutableCollections$ListN;"), (8, u "EMPTY_LIST_NULLS"), (22, u "SALT32L"), (0, u "J"), (2, u "REVERSE"), (6, u "archivedObjects"), (2, u "EMPTY"), (0, u "Ljava/lang/Object;"), (0, .class_ 112), (0, u "java/util/ImmutableCollections$SetN"), (5, u "EMPTY_SET"), (0, u "Ljava/util/ImmutableCollections$SetN;"), (0, .class_ 121), (0, u "java/util/ImmutableCollections$MapN"), (3, u "EMPTY_MAP"), (0, u "Ljava/util/ImmutableCollections$MapN;"), (4, u "EXPAND_FACTOR"), (0, u "I"), (36, .class_ 170), (0, u "java/util/ImmutableCollections$MapN$MapNIterator"), (0, .class_ 172), (0, u "java/util/ImmutableCollections$MapN$1"), (0, .class_ 174), (0, u "java/util/ImmutableCollections$Map1"), (0, .class_ 176), (0, u "java/util/ImmutableCollections$AbstractImmutableMap"), (0, .class_ 178), (0, u "java/util/ImmutableCollections$SetN$SetNIterator"), (0, .class_ 180), (0, u "java/util/ImmutableCollections$Set12"), (0, .class_ 182), (0, u "java/util/ImmutableCollections$Set12$1"), (0, .class_ 184), (0, u "java/util/ImmutableCollections$AbstractImmutableSet"), (0, .class_ 186), (0, u "java/util/ImmutableCollections$SubList"), (0, .class_ 188), (0, u "java/util/ImmutableCollections$ListItr"), (0, .class_ 190), (0, u "java/util/ImmutableCollections$AbstractImmutableList"), (0, .class_ 192), (0, u "java/util/ImmutableCollections$AbstractImmutableCollection"), (0, .class_ 194), (0, u "java/util/ImmutableCollections$Access"), (0, .class_ 196), (0, u "java/util/ImmutableCollections$Access$1")] 16

def k12m0 : Method := { name := "<init>", desc := "()V", sig := { parameters := [], returnType := none }, accessFlags := 2, code := none }
/-- java/util/ImmutableCollections -/
def k12 : Class := { plain "java/util/ImmutableCollections" (some 0) with
  accessFlags := 32
  interfaces := #[]
  cf := some (fileOf pool12 47 #[.nestMembers #[120, 169, 171, 173, 175, 111, 177, 179, 181, 183, 12, 10, 185, 187, 189, 191, 193, 195]] #[{ accessFlags := 2, nameIndex := 5, descriptorIndex := 6, attributes := #[] }] 32 2 #[] #[{ accessFlags := 26, nameIndex := 95, descriptorIndex := 96, attributes := #[] }, { accessFlags := 26, nameIndex := 99, descriptorIndex := 17, attributes := #[] }, { accessFlags := 10, nameIndex := 106, descriptorIndex := 56, attributes := #[] }, { accessFlags := 26, nameIndex := 109, descriptorIndex := 110, attributes := #[] }, { accessFlags := 24, nameIndex := 62, descriptorIndex := 63, attributes := #[] }, { accessFlags := 24, nameIndex := 72, descriptorIndex := 63, attributes := #[] }, { accessFlags := 24, nameIndex := 118, descriptorIndex := 119, attributes := #[] }, { accessFlags := 24, nameIndex := 125, descriptorIndex := 126, attributes := #[] }, { accessFlags := 24, nameIndex := 131, descriptorIndex := 132, attributes := #[] }, { accessFlags := 4120, nameIndex := 50, descriptorIndex := 17, attributes := #[] }])
  fields := #[{ name := "SALT32L", type := .long, accessFlags := 26, slot := 0, constantValue := 0 }, { name := "REVERSE", type := .boolean, accessFlags := 26, slot := 1, constantValue := 0 }, { name := "archivedObjects", type := (.array (.object "java/lang/Object")), accessFlags := 10, slot := 2, constantValue := 0 }, { name := "EMPTY", type := (.object "java/lang/Object"), accessFlags := 26, slot := 3, constantValue := 0 }, { name := "EMPTY_LIST", type := (.object "java/util/ImmutableCollections$ListN"), accessFlags := 24, slot := 4, constantValue := 0 }, { name := "EMPTY_LIST_NULLS", type := (.object "java/util/ImmutableCollections$ListN"), accessFlags := 24, slot := 5, constantValue := 0 }, { name := "EMPTY_SET", type := (.object "java/util/ImmutableCollections$SetN"), accessFlags := 24, slot := 6, constantValue := 0 }, { name := "EMPTY_MAP", type := (.object "java/util/ImmutableCollections$MapN"), accessFlags := 24, slot := 7, constantValue := 0 }, { name := "EXPAND_FACTOR", type := .int, accessFlags := 24, slot := 8, constantValue := 0 }, { name := "$assertionsDisabled", type := .boolean, accessFlags := 4120, slot := 9, constantValue := 0 }]
  methods := #[k12m0]
  instanceTypes := #[]
  staticTypes := #[.long, .boolean, (.array (.object "java/lang/Object")), (.object "java/lang/Object"), (.object "java/util/ImmutableCollections$ListN"), (.object "java/util/ImmutableCollections$ListN"), (.object "java/util/ImmutableCollections$SetN"), (.object "java/util/ImmutableCollections$MapN"), .int, .boolean]
  resolved := Array.replicate 213 none
  statics := some 2 }

def pool13 : Array CpInfo := pool [(2, .class_ 4), (1, u "java/lang/Object"), (0, u "<init>"), (0, u "()V"), (1, .class_ 10), (1, u "java/lang/Number"), (2, .class_ 14), (0, u "java/io/Serializable"), (0, u "serialVersionUID"), (0, u "J")] 20

def k13m0 : Method := { name := "<init>", desc := "()V", sig := { parameters := [], returnType := none }, accessFlags := 1, code := none }
/-- java/lang/Number -/
def k13 : Class := { plain "java/lang/Number" (some 0) with
  accessFlags := 1057
  interfaces := #[5]
  cf := some (fileOf pool13 8 #[] #[{ accessFlags := 1, nameIndex := 5, descriptorIndex := 6, attributes := #[] }] 1057 2 #[13] #[{ accessFlags := 26, nameIndex := 15, descriptorIndex := 16, attributes := #[] }])
  fields := #[{ name := "serialVersionUID", type := .long, accessFlags := 26, slot := 0, constantValue := 0 }]
  methods := #[k13m0]
  instanceTypes := #[]
  staticTypes := #[.long]
  resolved := Array.replicate 37 none
  statics := none }

def pool14 : Array CpInfo := pool [(1, .class_ 2), (0, u "java/lang/constant/ConstantDesc"), (0, .class_ 4), (0, u "java/lang/Object")] 32

/-- java/lang/constant/ConstantDesc -/
def k14 : Class := { plain "java/lang/constant/ConstantDesc" (some 0) with
  accessFlags := 1537
  interfaces := #[]
  cf := some (fileOf pool14 1 #[] #[] 1537 3 #[] #[])
  fields := #[]
  methods := #[]
  instanceTypes := #[]
  staticTypes := #[]
  resolved := Array.replicate 37 none
  statics := none }

def pool15 : Array CpInfo := pool [(1, .class_ 2), (0, u "java/lang/Integer"), (2, .class_ 6), (0, u "java/lang/String"), (4, u "toString"), (0, u "(I)Ljava/lang/String;"), (0, .fieldref 5 14), (0, .nameAndType 15 16), (0, u "COMPACT_STRINGS"), (0, u "Z"), (2, u "digits"), (0, u "[C"), (33, u "(I)I"), (10, .methodref 5 66), (0, .nameAndType 67 68), (0, u "<init>"), (0, u "([BB)V"), (3, .methodref 1 73), (0, .nameAndType 74 54), (0, u "stringSize"), (0, .methodref 1 76), (0, .nameAndType 77 78), (0, u "getChars"), (0, u "(II[B)I"), (4, .fieldref 1 84), (0, .nameAndType 85 86), (0, u "DigitOnes"), (0, u "[B"), (0, .fieldref 1 88), (0, .nameAndType 89 86), (0, u "DigitTens"), (99, .class_ 190), (0, u "java/lang/Integer$IntegerCache"), (3, u "I"), (8, .class_ 204), (0, u "java/lang/Number"), (2, u "value"), (94, u "TYPE"), (0, u "Ljava/lang/Class;"), (0, .class_ 305), (0, u "java/lang/Comparable"), (0, .class_ 307), (0, u "java/lang/constant/Constable"), (0, .class_ 309), (0, u "java/lang/constant/ConstantDesc"), (0, u "MIN_VALUE"), (1, u "MAX_VALUE"), (3, u "SIZE"), (1, u "BYTES"), (1, u "serialVersionUID"), (0, u "J")] 131

def k15c0 : Code := { maxStack := 4, maxLocals := 3, code := jdk_33_method_10_code, exceptionTable := #[], attributes := #[] }
def k15m0 : Method := { name := "toString", desc := "(I)Ljava/lang/String;", sig := { parameters := [.int], returnType := some (.object "java/lang/String") }, accessFlags := 9, code := some k15c0 }
def k15c1 : Code := { maxStack := 4, maxLocals := 7, code := jdk_33_method_12_code, exceptionTable := #[], attributes := #[] }
def k15m1 : Method := { name := "getChars", desc := "(II[B)I", sig := { parameters := [.int, .int, (.array .byte)], returnType := some .int }, accessFlags := 8, code := some k15c1 }
def k15c2 : Code := { maxStack := 2, maxLocals := 4, code := jdk_33_method_13_code, exceptionTable := #[], attributes := #[] }
def k15m2 : Method := { name := "stringSize", desc := "(I)I", sig := { parameters := [.int], returnType := some .int }, accessFlags := 8, code := some k15c2 }
/-- java/lang/Integer -/
def k15 : Class := { plain "java/lang/Integer" (some 13) with
  accessFlags := 49
  interfaces := #[4, 3, 14]
  cf := some (fileOf pool15 1 #[.nestMembers #[189]] #[{ accessFlags := 9, nameIndex := 11, descriptorIndex := 12, attributes := #[] }, { accessFlags := 8, nameIndex := 77, descriptorIndex := 78, attributes := #[] }, { accessFlags := 8, nameIndex := 74, descriptorIndex := 54, attributes := #[] }] 49 203 #[304, 306, 308] #[{ accessFlags := 25, nameIndex := 310, descriptorIndex := 194, attributes := #[] }, { accessFlags := 25, nameIndex := 312, descriptorIndex := 194, attributes := #[] }, { accessFlags := 25, nameIndex := 302, descriptorIndex := 303, attributes := #[] }, { accessFlags := 24, nameIndex := 19, descriptorIndex := 20, attributes := #[] }, { accessFlags := 24, nameIndex := 89, descriptorIndex := 86, attributes := #[] }, { accessFlags := 24, nameIndex := 85, descriptorIndex := 86, attributes := #[] }, { accessFlags := 18, nameIndex := 207, descriptorIndex := 194, attributes := #[] }, { accessFlags := 25, nameIndex := 316, descriptorIndex := 194, attributes := #[] }, { accessFlags := 25, nameIndex := 318, descriptorIndex := 194, attributes := #[] }, { accessFlags := 26, nameIndex := 320, descriptorIndex := 321, attributes := #[] }])
  fields := #[{ name := "MIN_VALUE", type := .int, accessFlags := 25, slot := 0, constantValue := 0 }, { name := "MAX_VALUE", type := .int, accessFlags := 25, slot := 1, constantValue := 0 }, { name := "TYPE", type := (.object "java/lang/Class"), accessFlags := 25, slot := 2, constantValue := 0 }, { name := "digits", type := (.array .char), accessFlags := 24, slot := 3, constantValue := 0 }, { name := "DigitTens", type := (.array .byte), accessFlags := 24, slot := 4, constantValue := 0 }, { name := "DigitOnes", type := (.array .byte), accessFlags := 24, slot := 5, constantValue := 0 }, { name := "value", type := .int, accessFlags := 18, slot := 0, constantValue := 0 }, { name := "SIZE", type := .int, accessFlags := 25, slot := 6, constantValue := 0 }, { name := "BYTES", type := .int, accessFlags := 25, slot := 7, constantValue := 0 }, { name := "serialVersionUID", type := .long, accessFlags := 26, slot := 8, constantValue := 0 }]
  methods := #[k15m0, k15m1, k15m2]
  instanceTypes := #[.int]
  staticTypes := #[.int, .int, (.object "java/lang/Class"), (.array .char), (.array .byte), (.array .byte), .int, .int, .long]
  resolved := Array.replicate 453 none
  statics := some 3 }

def pool16 : Array CpInfo := pool [(2, .class_ 4), (1, u "java/lang/CharSequence"), (42, .class_ 48), (0, u "java/lang/CharSequence$1CodePointIterator"), (10, .class_ 60), (0, u "java/lang/CharSequence$1CharIterator"), (5, .class_ 67), (0, u "java/lang/Object")] 63

/-- java/lang/CharSequence -/
def k16 : Class := { plain "java/lang/CharSequence" (some 0) with
  accessFlags := 1537
  interfaces := #[]
  cf := some (fileOf pool16 2 #[.nestMembers #[47, 59]] #[] 1537 66 #[] #[])
  fields := #[]
  methods := #[]
  instanceTypes := #[]
  staticTypes := #[]
  resolved := Array.replicate 131 none
  statics := none }

def pool17 : Array CpInfo := pool [(1, .methodref 2 3), (0, .class_ 4), (0, .nameAndType 5 6), (0, u "java/lang/Object"), (0, u "<init>"), (0, u "()V"), (2, .fieldref 10 11), (0, .class_ 12), (0, .nameAndType 13 14), (0, u "java/lang/String"), (0, u "value"), (0, u "[B"), (0, .fieldref 10 16), (0, .nameAndType 17 18), (0, u "coder"), (0, u "B"), (2, u "hash"), (0, u "I"), (2, u "hashIsZero"), (0, u "Z"), (11, .fieldref 10 39), (0, .nameAndType 40 26), (0, u "COMPACT_STRINGS"), (66, .class_ 109), (1, u "java/lang/StringLatin1"), (32, u "()Z"), (68, u "([BB)V"), (122, u "()I"), (0, .methodref 10 336), (0, .nameAndType 17 337), (0, u "()B"), (25, u "([BI)C"), (27, u "(II)V"), (35, u "(I)C"), (64, .methodref 10 493), (0, .nameAndType 494 142), (0, u "isLatin1"), (0, .methodref 107 496), (0, .nameAndType 497 363), (0, u "charAt"), (3, u "checkIndex"), (5, u "length"), (67, .class_ 576), (0, u "java/lang/CharSequence"), (22, u "CASE_INSENSITIVE_ORDER"), (0, u "Ljava/util/Comparator;"), (452, .fieldref 1054 1055), (0, .class_ 1056), (0, .nameAndType 1057 1058), (0, u "jdk/internal/util/Preconditions"), (0, u "SIOOBE_FORMATTER"), (0, u "Ljava/util/function/BiFunction;"), (0, .methodref 1054 1060), (0, .nameAndType 501 1061), (0, u "(IILjava/util/function/BiFunction;)I"), (39, u "serialPersistentFields"), (0, u "[Ljava/io/ObjectStreamField;"), (0, .class_ 1104), (0, u "java/lang/String$CaseInsensitiveComparator"), (1, .class_ 1107), (0, u "java/io/Serializable"), (0, .class_ 1109), (0, u "java/lang/Comparable"), (0, .class_ 1111), (0, u "java/lang/constant/Constable"), (0, .class_ 1113), (0, u "java/lang/constant/ConstantDesc"), (2, u "serialVersionUID"), (0, u "J"), (3, u "REPL"), (0, u "C"), (2, u "LATIN1"), (1, u "UTF16")] 323

def k17m0 : Method := { name := "<init>", desc := "()V", sig := { parameters := [], returnType := none }, accessFlags := 1, code := none }
def k17c1 : Code := { maxStack := 2, maxLocals := 1, code := jdk_42_method_54_code, exceptionTable := #[], attributes := #[] }
def k17m1 : Method := { name := "length", desc := "()I", sig := { parameters := [], returnType := some .int }, accessFlags := 1, code := some k17c1 }
def k17c2 : Code := { maxStack := 2, maxLocals := 2, code := jdk_42_method_56_code, exceptionTable := #[], attributes := #[] }
def k17m2 : Method := { name := "charAt", desc := "(I)C", sig := { parameters := [.int], returnType := some .char }, accessFlags := 1, code := some k17c2 }
def k17c3 : Code := { maxStack := 2, maxLocals := 3, code := jdk_42_method_151_code, exceptionTable := #[], attributes := #[] }
def k17m3 : Method := { name := "<init>", desc := "([BB)V", sig := { parameters := [(.array .byte), .byte], returnType := none }, accessFlags := 0, code := some k17c3 }
def k17c4 : Code := { maxStack := 1, maxLocals := 1, code := jdk_42_method_152_code, exceptionTable := #[], attributes := #[] }
def k17m4 : Method := { name := "coder", desc := "()B", sig := { parameters := [], returnType := some .byte }, accessFlags := 0, code := some k17c4 }
def k17c5 : Code := { maxStack := 1, maxLocals := 1, code := jdk_42_method_154_code, exceptionTable := #[], attributes := #[] }
def k17m5 : Method := { name := "isLatin1", desc := "()Z", sig := { parameters := [], returnType := some .boolean }, accessFlags := 0, code := some k17c5 }
def k17c6 : Code := { maxStack := 3, maxLocals := 2, code := jdk_42_method_155_code, exceptionTable := #[], attributes := #[] }
def k17m6 : Method := { name := "checkIndex", desc := "(II)V", sig := { parameters := [.int, .int], returnType := none }, accessFlags := 8, code := some k17c6 }
/-- java/lang/String -/
def k17 : Class := { plain "java/lang/String" (some 0) with
  accessFlags := 49
  interfaces := #[5, 4, 16, 3, 14]
  cf := some (fileOf pool17 10 #[.nestMembers #[1103]] #[{ accessFlags := 1, nameIndex := 5, descriptorIndex := 6, attributes := #[] }, { accessFlags := 1, nameIndex := 507, descriptorIndex := 334, attributes := #[] }, { accessFlags := 1, nameIndex := 497, descriptorIndex := 427, attributes := #[] }, { accessFlags := 0, nameIndex := 5, descriptorIndex := 211, attributes := #[] }, { accessFlags := 0, nameIndex := 17, descriptorIndex := 337, attributes := #[] }, { accessFlags := 0, nameIndex := 494, descriptorIndex := 142, attributes := #[] }, { accessFlags := 8, nameIndex := 501, descriptorIndex := 391, attributes := #[] }] 49 2 #[1106, 1108, 575, 1110, 1112] #[{ accessFlags := 18, nameIndex := 13, descriptorIndex := 14, attributes := #[] }, { accessFlags := 18, nameIndex := 17, descriptorIndex := 18, attributes := #[] }, { accessFlags := 2, nameIndex := 21, descriptorIndex := 22, attributes := #[] }, { accessFlags := 2, nameIndex := 25, descriptorIndex := 26, attributes := #[] }, { accessFlags := 26, nameIndex := 1116, descriptorIndex := 1117, attributes := #[] }, { accessFlags := 24, nameIndex := 40, descriptorIndex := 26, attributes := #[] }, { accessFlags := 26, nameIndex := 1101, descriptorIndex := 1102, attributes := #[] }, { accessFlags := 26, nameIndex := 1121, descriptorIndex := 1122, attributes := #[] }, { accessFlags := 25, nameIndex := 599, descriptorIndex := 600, attributes := #[] }, { accessFlags := 24, nameIndex := 1125, descriptorIndex := 18, attributes := #[] }, { accessFlags := 24, nameIndex := 1127, descriptorIndex := 18, attributes := #[] }])
  fields := #[{ name := "value", type := (.array .byte), accessFlags := 18, slot := 0, constantValue := 0 }, { name := "coder", type := .byte, accessFlags := 18, slot := 1, constantValue := 0 }, { name := "hash", type := .int, accessFlags := 2, slot := 2, constantValue := 0 }, { name := "hashIsZero", type := .boolean, accessFlags := 2, slot := 3, constantValue := 0 }, { name := "serialVersionUID", type := .long, accessFlags := 26, slot := 0, constantValue := 0 }, { name := "COMPACT_STRINGS", type := .boolean, accessFlags := 24, slot := 1, constantValue := 0 }, { name := "serialPersistentFields", type := (.array (.object "java/io/ObjectStreamField")), accessFlags := 26, slot := 2, constantValue := 0 }, { name := "REPL", type := .char, accessFlags := 26, slot := 3, constantValue := 0 }, { name := "CASE_INSENSITIVE_ORDER", type := (.object "java/util/Comparator"), accessFlags := 25, slot := 4, constantValue := 0 }, { name := "LATIN1", type := .byte, accessFlags := 24, slot := 5, constantValue := 0 }, { name := "UTF16", type := .byte, accessFlags := 24, slot := 6, constantValue := 0 }]
  methods := #[k17m0, k17m1, k17m2, k17m3, k17m4, k17m5, k17m6]
  instanceTypes := #[(.array .byte), .byte, .int, .boolean]
  staticTypes := #[.long, .boolean, (.array (.object "java/io/ObjectStreamField")), .char, (.object "java/util/Comparator"), .byte, .byte]
  resolved := Array.replicate 1451 none
  statics := some 4 }

def pool18 : Array CpInfo := pool [(2, .class_ 4), (1, u "java/lang/Object"), (0, u "<init>"), (0, u "()V"), (1, .class_ 10), (1, u "java/util/AbstractCollection"), (0, u "size"), (0, u "()I"), (64, .class_ 78), (0, u "java/util/Collection")] 81

def k18m0 : Method := { name := "<init>", desc := "()V", sig := { parameters := [], returnType := none }, accessFlags := 4, code := none }
def k18m1 : Method := { name := "size", desc := "()I", sig := { parameters := [], returnType := some .int }, accessFlags := 1025, code := none }
/-- java/util/AbstractCollection -/
def k18 : Class := { plain "java/util/AbstractCollection" (some 0) with
  accessFlags := 1057
  interfaces := #[9]
  cf := some (fileOf pool18 8 #[] #[{ accessFlags := 4, nameIndex := 5, descriptorIndex := 6, attributes := #[] }, { accessFlags := 1025, nameIndex := 11, descriptorIndex := 12, attributes := #[] }] 1057 2 #[77] #[])
  fields := #[]
  methods := #[k18m0, k18m1]
  instanceTypes := #[]
  staticTypes := #[]
  resolved := Array.replicate 160 none
  statics := none }

def pool19 : Array CpInfo := pool [(2, .class_ 4), (1, u "java/util/AbstractCollection"), (0, u "<init>"), (0, u "()V"), (1, .class_ 10), (1, u "java/util/ImmutableCollections"), (2, .class_ 14), (0, u "java/util/ImmutableCollections$AbstractImmutableCollection")] 41

def k19m0 : Method := { name := "<init>", desc := "()V", sig := { parameters := [], returnType := none }, accessFlags := 0, code := none }
/-- java/util/ImmutableCollections$AbstractImmutableCollection -/
def k19 : Class := { plain "java/util/ImmutableCollections$AbstractImmutableCollection" (some 18) with
  accessFlags := 1056
  interfaces := #[]
  cf := some (fileOf pool19 13 #[.nestHost 8] #[{ accessFlags := 0, nameIndex := 5, descriptorIndex := 6, attributes := #[] }] 1056 2 #[] #[])
  fields := #[]
  methods := #[k19m0]
  instanceTypes := #[]
  staticTypes := #[]
  resolved := Array.replicate 56 none
  statics := none }

def pool20 : Array CpInfo := pool [(1, .class_ 2), (0, u "java/util/RandomAccess"), (0, .class_ 4), (0, u "java/lang/Object")] 2

/-- java/util/RandomAccess -/
def k20 : Class := { plain "java/util/RandomAccess" (some 0) with
  accessFlags := 1537
  interfaces := #[]
  cf := some (fileOf pool20 1 #[] #[] 1537 3 #[] #[])
  fields := #[]
  methods := #[]
  instanceTypes := #[]
  staticTypes := #[]
  resolved := Array.replicate 7 none
  statics := none }

def pool21 : Array CpInfo := pool [(2, .class_ 4), (1, u "java/util/ImmutableCollections$AbstractImmutableCollection"), (0, u "<init>"), (0, u "()V"), (1, .class_ 10), (1, u "java/util/ImmutableCollections"), (2, .methodref 14 15), (0, .class_ 16), (0, .nameAndType 17 18), (0, u "java/util/ImmutableCollections$AbstractImmutableList"), (0, u "size"), (0, u "()I"), (42, .class_ 62), (0, u "java/util/ImmutableCollections$ListItr"), (0, .methodref 61 64), (0, .nameAndType 5 65), (0, u "(Ljava/util/List;I)V"), (11, .class_ 78), (0, u "java/util/List"), (2, u "iterator"), (0, u "()Ljava/util/Iterator;"), (41, .class_ 125), (0, u "java/util/RandomAccess")] 70

def k21m0 : Method := { name := "<init>", desc := "()V", sig := { parameters := [], returnType := none }, accessFlags := 0, code := none }
def k21c1 : Code := { maxStack := 4, maxLocals := 1, code := jdk_46_method_10_code, exceptionTable := #[], attributes := #[] }
def k21m1 : Method := { name := "iterator", desc := "()Ljava/util/Iterator;", sig := { parameters := [], returnType := some (.object "java/util/Iterator") }, accessFlags := 1, code := some k21c1 }
/-- java/util/ImmutableCollections$AbstractImmutableList -/
def k21 : Class := { plain "java/util/ImmutableCollections$AbstractImmutableList" (some 19) with
  accessFlags := 1056
  interfaces := #[11, 20]
  cf := some (fileOf pool21 14 #[.nestHost 8] #[{ accessFlags := 0, nameIndex := 5, descriptorIndex := 6, attributes := #[] }, { accessFlags := 1, nameIndex := 81, descriptorIndex := 82, attributes := #[] }] 1056 2 #[77, 124] #[])
  fields := #[]
  methods := #[k21m0, k21m1]
  instanceTypes := #[]
  staticTypes := #[]
  resolved := Array.replicate 196 none
  statics := none }

def pool22 : Array CpInfo := pool [(2, .class_ 4), (1, u "java/util/ImmutableCollections$AbstractImmutableList"), (2, .fieldref 8 9), (0, .class_ 10), (0, .nameAndType 11 12), (0, u "java/util/ImmutableCollections$ListN"), (0, u "elements"), (0, u "[Ljava/lang/Object;"), (2, u "allowNulls"), (0, u "Z"), (42, .class_ 60), (0, u "java/io/Serializable"), (16, u "size"), (0, u "()I"), (35, .class_ 115), (0, u "java/util/ImmutableCollections")] 3

def k22c0 : Code := { maxStack := 1, maxLocals := 1, code := jdk_45_method_3_code, exceptionTable := #[], attributes := #[] }
def k22m0 : Method := { name := "size", desc := "()I", sig := { parameters := [], returnType := some .int }, accessFlags := 1, code := some k22c0 }
/-- java/util/ImmutableCollections$ListN -/
def k22 : Class := { plain "java/util/ImmutableCollections$ListN" (some 21) with
  accessFlags := 48
  interfaces := #[5]
  cf := some (fileOf pool22 8 #[.nestHost 114] #[{ accessFlags := 1, nameIndex := 77, descriptorIndex := 78, attributes := #[] }] 48 2 #[59] #[{ accessFlags := 18, nameIndex := 11, descriptorIndex := 12, attributes := #[] }, { accessFlags := 18, nameIndex := 15, descriptorIndex := 16, attributes := #[] }])
  fields := #[{ name := "elements", type := (.array (.object "java/lang/Object")), accessFlags := 18, slot := 0, constantValue := 0 }, { name := "allowNulls", type := .boolean, accessFlags := 18, slot := 1, constantValue := 0 }]
  methods := #[k22m0]
  instanceTypes := #[(.array (.object "java/lang/Object")), .boolean]
  staticTypes := #[]
  resolved := Array.replicate 119 none
  statics := none }

def pool23 : Array CpInfo := pool [(16, .class_ 18), (1, u "java/util/Iterator"), (0, u "hasNext"), (0, u "()Z"), (10, .class_ 32), (0, u "java/lang/Object")] 20

def k23m0 : Method := { name := "hasNext", desc := "()Z", sig := { parameters := [], returnType := some .boolean }, accessFlags := 1025, code := none }
/-- java/util/Iterator -/
def k23 : Class := { plain "java/util/Iterator" (some 0) with
  accessFlags := 1537
  interfaces := #[]
  cf := some (fileOf pool23 16 #[] #[{ accessFlags := 1025, nameIndex := 19, descriptorIndex := 20, attributes := #[] }] 1537 31 #[] #[])
  fields := #[]
  methods := #[k23m0]
  instanceTypes := #[]
  staticTypes := #[]
  resolved := Array.replicate 53 none
  statics := none }

def pool24 : Array CpInfo := pool [(1, .class_ 2), (0, u "java/util/ListIterator"), (0, .class_ 4), (0, u "java/lang/Object"), (0, .class_ 6), (0, u "java/util/Iterator")] 20

/-- java/util/ListIterator -/
def k24 : Class := { plain "java/util/ListIterator" (some 0) with
  accessFlags := 1537
  interfaces := #[23]
  cf := some (fileOf pool24 1 #[] #[] 1537 3 #[5] #[])
  fields := #[]
  methods := #[]
  instanceTypes := #[]
  staticTypes := #[]
  resolved := Array.replicate 27 none
  statics := none }

def pool25 : Array CpInfo := pool [(1, .methodref 2 3), (0, .class_ 4), (0, .nameAndType 5 6), (0, u "java/lang/Object"), (0, u "<init>"), (0, u "()V"), (0, .fieldref 8 9), (0, .class_ 10), (0, .nameAndType 11 12), (0, u "java/util/ImmutableCollections$ListItr"), (0, u "list"), (0, u "Ljava/util/List;"), (0, .fieldref 8 14), (0, .nameAndType 15 16), (0, u "size"), (0, u "I"), (0, .fieldref 8 18), (0, .nameAndType 19 16), (0, u "cursor"), (0, .fieldref 8 21), (0, .nameAndType 22 23), (0, u "isListIterator"), (0, u "Z"), (12, .class_ 38), (1, u "java/util/ImmutableCollections"), (2, .class_ 42), (0, u "java/util/ListIterator"), (4, u "(Ljava/util/List;I)V"), (11, u "hasNext"), (0, u "()Z")] 25

def k25c0 : Code := { maxStack := 2, maxLocals := 3, code := jdk_53_method_1_code, exceptionTable := #[], attributes := #[] }
def k25m0 : Method := { name := "<init>", desc := "(Ljava/util/List;I)V", sig := { parameters := [(.object "java/util/List"), .int], returnType := none }, accessFlags := 0, code := some k25c0 }
def k25c1 : Code := { maxStack := 2, maxLocals := 1, code := jdk_53_method_3_code, exceptionTable := #[], attributes := #[] }
def k25m1 : Method := { name := "hasNext", desc := "()Z", sig := { parameters := [], returnType := some .boolean }, accessFlags := 1, code := some k25c1 }
/-- java/util/ImmutableCollections$ListItr -/
def k25 : Class := { plain "java/util/ImmutableCollections$ListItr" (some 0) with
  accessFlags := 48
  interfaces := #[24]
  cf := some (fileOf pool25 8 #[.nestHost 36] #[{ accessFlags := 0, nameIndex := 5, descriptorIndex := 47, attributes := #[] }, { accessFlags := 1, nameIndex := 59, descriptorIndex := 60, attributes := #[] }] 48 2 #[41] #[{ accessFlags := 18, nameIndex := 11, descriptorIndex := 12, attributes := #[] }, { accessFlags := 18, nameIndex := 15, descriptorIndex := 16, attributes := #[] }, { accessFlags := 18, nameIndex := 22, descriptorIndex := 23, attributes := #[] }, { accessFlags := 2, nameIndex := 19, descriptorIndex := 16, attributes := #[] }])
  fields := #[{ name := "list", type := (.object "java/util/List"), accessFlags := 18, slot := 0, constantValue := 0 }, { name := "size", type := .int, accessFlags := 18, slot := 1, constantValue := 0 }, { name := "isListIterator", type := .boolean, accessFlags := 18, slot := 2, constantValue := 0 }, { name := "cursor", type := .int, accessFlags := 2, slot := 3, constantValue := 0 }]
  methods := #[k25m0, k25m1]
  instanceTypes := #[(.object "java/util/List"), .int, .boolean, .int]
  staticTypes := #[]
  resolved := Array.replicate 86 none
  statics := none }

def pool26 : Array CpInfo := pool [(1, .class_ 2), (0, u "java/lang/String"), (1, .class_ 6), (1, u "java/lang/Object"), (0, u "<init>"), (0, u "()V"), (0, .methodref 1 10), (0, .nameAndType 11 12), (0, u "checkIndex"), (0, u "(II)V"), (1, .class_ 16), (1, u "java/lang/StringLatin1"), (36, u "([BI)C"), (67, u "$assertionsDisabled"), (0, u "Z"), (98, .class_ 223), (1, u "java/lang/StringLatin1$LinesSpliterator"), (28, u "charAt"), (137, .class_ 391), (0, u "java/lang/StringLatin1$CharsSpliterator")] 3

def k26m0 : Method := { name := "<init>", desc := "()V", sig := { parameters := [], returnType := none }, accessFlags := 0, code := none }
def k26c1 : Code := { maxStack := 2, maxLocals := 2, code := jdk_43_method_2_code, exceptionTable := #[], attributes := #[] }
def k26m1 : Method := { name := "charAt", desc := "([BI)C", sig := { parameters := [(.array .byte), .int], returnType := some .char }, accessFlags := 9, code := some k26c1 }
/-- java/lang/StringLatin1 -/
def k26 : Class := { plain "java/lang/StringLatin1" (some 0) with
  accessFlags := 48
  interfaces := #[]
  cf := some (fileOf pool26 14 #[.nestMembers #[390, 221]] #[{ accessFlags := 0, nameIndex := 7, descriptorIndex := 8, attributes := #[] }, { accessFlags := 9, nameIndex := 252, descriptorIndex := 53, attributes := #[] }] 48 4 #[] #[{ accessFlags := 4120, nameIndex := 121, descriptorIndex := 122, attributes := #[] }])
  fields := #[{ name := "$assertionsDisabled", type := .boolean, accessFlags := 4120, slot := 0, constantValue := 0 }]
  methods := #[k26m0, k26m1]
  instanceTypes := #[]
  staticTypes := #[.boolean]
  resolved := Array.replicate 395 none
  statics := none }

def pool27 : Array CpInfo := pool [(2, .class_ 4), (1, u "java/lang/Object"), (0, u "<init>"), (0, u "()V"), (17, .class_ 26), (1, u "jdk/internal/util/Preconditions"), (6, u "checkIndex"), (21, .class_ 56), (0, u "jdk/internal/util/Preconditions$4"), (57, .class_ 115), (0, u "jdk/internal/util/Preconditions$1"), (7, u "SIOOBE_FORMATTER"), (0, u "Ljava/util/function/BiFunction;"), (0, .class_ 126), (0, u "jdk/internal/util/Preconditions$2"), (3, u "AIOOBE_FORMATTER"), (0, .class_ 132), (0, u "jdk/internal/util/Preconditions$3"), (3, u "IOOBE_FORMATTER"), (41, u "(IILjava/util/function/BiFunction;)I")] 15

def k27m0 : Method := { name := "<init>", desc := "()V", sig := { parameters := [], returnType := none }, accessFlags := 1, code := none }
def k27c1 : Code := { maxStack := 3, maxLocals := 3, code := jdk_41_method_11_code, exceptionTable := #[], attributes := #[] }
def k27m1 : Method := { name := "checkIndex", desc := "(IILjava/util/function/BiFunction;)I", sig := { parameters := [.int, .int, (.object "java/util/function/BiFunction")], returnType := some .int }, accessFlags := 9, code := some k27c1 }
/-- jdk/internal/util/Preconditions -/
def k27 : Class := { plain "jdk/internal/util/Preconditions" (some 0) with
  accessFlags := 33
  interfaces := #[]
  cf := some (fileOf pool27 24 #[.nestMembers #[55, 131, 125, 114]] #[{ accessFlags := 1, nameIndex := 5, descriptorIndex := 6, attributes := #[] }, { accessFlags := 9, nameIndex := 33, descriptorIndex := 178, attributes := #[] }] 33 2 #[] #[{ accessFlags := 25, nameIndex := 123, descriptorIndex := 124, attributes := #[] }, { accessFlags := 25, nameIndex := 130, descriptorIndex := 124, attributes := #[] }, { accessFlags := 25, nameIndex := 136, descriptorIndex := 124, attributes := #[] }])
  fields := #[{ name := "SIOOBE_FORMATTER", type := (.object "java/util/function/BiFunction"), accessFlags := 25, slot := 0, constantValue := 0 }, { name := "AIOOBE_FORMATTER", type := (.object "java/util/function/BiFunction"), accessFlags := 25, slot := 1, constantValue := 0 }, { name := "IOOBE_FORMATTER", type := (.object "java/util/function/BiFunction"), accessFlags := 25, slot := 2, constantValue := 0 }]
  methods := #[k27m0, k27m1]
  instanceTypes := #[]
  staticTypes := #[(.object "java/util/function/BiFunction"), (.object "java/util/function/BiFunction"), (.object "java/util/function/BiFunction")]
  resolved := Array.replicate 194 none
  statics := some 5 }

def pool28 : Array CpInfo := pool [(9, u "<init>"), (6, .class_ 18), (1, u "java/lang/Object"), (0, u "()V"), (1, .class_ 23), (1, u "jdk/internal/util/ArraysSupport"), (0, u "LOG2_ARRAY_LONG_INDEX_SCALE"), (0, u "I"), (2, u "U"), (0, u "Ljdk/internal/misc/Unsafe;"), (8, u "BIG_ENDIAN"), (0, u "Z"), (8, u "LOG2_BYTE_BIT_SIZE"), (4, u "LOG2_ARRAY_INT_INDEX_SCALE"), (54, u "JLA"), (0, u "Ljdk/internal/access/JavaLangAccess;"), (11, u "LOG2_ARRAY_BOOLEAN_INDEX_SCALE"), (9, u "LOG2_ARRAY_BYTE_INDEX_SCALE"), (5, u "LOG2_ARRAY_CHAR_INDEX_SCALE"), (5, u "LOG2_ARRAY_SHORT_INDEX_SCALE"), (18, u "LOG2_ARRAY_FLOAT_INDEX_SCALE"), (24, u "LOG2_ARRAY_DOUBLE_INDEX_SCALE"), (89, u "T_BOOLEAN"), (2, u "T_CHAR"), (1, u "T_FLOAT"), (1, u "T_DOUBLE"), (1, u "T_BYTE"), (1, u "T_SHORT"), (1, u "T_INT"), (1, u "T_LONG"), (1, u "SOFT_MAX_ARRAY_LENGTH")] 83

def k28m0 : Method := { name := "<init>", desc := "()V", sig := { parameters := [], returnType := none }, accessFlags := 2, code := none }
/-- jdk/internal/util/ArraysSupport -/
def k28 : Class := { plain "jdk/internal/util/ArraysSupport" (some 0) with
  accessFlags := 33
  interfaces := #[]
  cf := some (fileOf pool28 21 #[] #[{ accessFlags := 2, nameIndex := 9, descriptorIndex := 19, attributes := #[] }] 33 16 #[] #[{ accessFlags := 24, nameIndex := 28, descriptorIndex := 29, attributes := #[] }, { accessFlags := 26, nameIndex := 38, descriptorIndex := 39, attributes := #[] }, { accessFlags := 25, nameIndex := 121, descriptorIndex := 25, attributes := #[] }, { accessFlags := 25, nameIndex := 131, descriptorIndex := 25, attributes := #[] }, { accessFlags := 25, nameIndex := 137, descriptorIndex := 25, attributes := #[] }, { accessFlags := 25, nameIndex := 143, descriptorIndex := 25, attributes := #[] }, { accessFlags := 25, nameIndex := 53, descriptorIndex := 25, attributes := #[] }, { accessFlags := 25, nameIndex := 24, descriptorIndex := 25, attributes := #[] }, { accessFlags := 25, nameIndex := 162, descriptorIndex := 25, attributes := #[] }, { accessFlags := 25, nameIndex := 187, descriptorIndex := 25, attributes := #[] }, { accessFlags := 26, nameIndex := 48, descriptorIndex := 25, attributes := #[] }, { accessFlags := 25, nameIndex := 277, descriptorIndex := 25, attributes := #[] }, { accessFlags := 25, nameIndex := 280, descriptorIndex := 25, attributes := #[] }, { accessFlags := 25, nameIndex := 282, descriptorIndex := 25, attributes := #[] }, { accessFlags := 25, nameIndex := 284, descriptorIndex := 25, attributes := #[] }, { accessFlags := 25, nameIndex := 286, descriptorIndex := 25, attributes := #[] }, { accessFlags := 25, nameIndex := 288, descriptorIndex := 25, attributes := #[] }, { accessFlags := 25, nameIndex := 290, descriptorIndex := 25, attributes := #[] }, { accessFlags := 25, nameIndex := 292, descriptorIndex := 25, attributes := #[] }, { accessFlags := 26, nameIndex := 108, descriptorIndex := 109, attributes := #[] }, { accessFlags := 25, nameIndex := 294, descriptorIndex := 25, attributes := #[] }])
  fields := #[{ name := "U", type := (.object "jdk/internal/misc/Unsafe"), accessFlags := 24, slot := 0, constantValue := 0 }, { name := "BIG_ENDIAN", type := .boolean, accessFlags := 26, slot := 1, constantValue := 0 }, { name := "LOG2_ARRAY_BOOLEAN_INDEX_SCALE", type := .int, accessFlags := 25, slot := 2, constantValue := 0 }, { name := "LOG2_ARRAY_BYTE_INDEX_SCALE", type := .int, accessFlags := 25, slot := 3, constantValue := 0 }, { name := "LOG2_ARRAY_CHAR_INDEX_SCALE", type := .int, accessFlags := 25, slot := 4, constantValue := 0 }, { name := "LOG2_ARRAY_SHORT_INDEX_SCALE", type := .int, accessFlags := 25, slot := 5, constantValue := 0 }, { name := "LOG2_ARRAY_INT_INDEX_SCALE", type := .int, accessFlags := 25, slot := 6, constantValue := 0 }, { name := "LOG2_ARRAY_LONG_INDEX_SCALE", type := .int, accessFlags := 25, slot := 7, constantValue := 0 }, { name := "LOG2_ARRAY_FLOAT_INDEX_SCALE", type := .int, accessFlags := 25, slot := 8, constantValue := 0 }, { name := "LOG2_ARRAY_DOUBLE_INDEX_SCALE", type := .int, accessFlags := 25, slot := 9, constantValue := 0 }, { name := "LOG2_BYTE_BIT_SIZE", type := .int, accessFlags := 26, slot := 10, constantValue := 0 }, { name := "T_BOOLEAN", type := .int, accessFlags := 25, slot := 11, constantValue := 0 }, { name := "T_CHAR", type := .int, accessFlags := 25, slot := 12, constantValue := 0 }, { name := "T_FLOAT", type := .int, accessFlags := 25, slot := 13, constantValue := 0 }, { name := "T_DOUBLE", type := .int, accessFlags := 25, slot := 14, constantValue := 0 }, { name := "T_BYTE", type := .int, accessFlags := 25, slot := 15, constantValue := 0 }, { name := "T_SHORT", type := .int, accessFlags := 25, slot := 16, constantValue := 0 }, { name := "T_INT", type := .int, accessFlags := 25, slot := 17, constantValue := 0 }, { name := "T_LONG", type := .int, accessFlags := 25, slot := 18, constantValue := 0 }, { name := "JLA", type := (.object "jdk/internal/access/JavaLangAccess"), accessFlags := 26, slot := 19, constantValue := 0 }, { name := "SOFT_MAX_ARRAY_LENGTH", type := .int, accessFlags := 25, slot := 20, constantValue := 0 }]
  methods := #[k28m0]
  instanceTypes := #[]
  staticTypes := #[(.object "jdk/internal/misc/Unsafe"), .boolean, .int, .int, .int, .int, .int, .int, .int, .int, .int, .int, .int, .int, .int, .int, .int, .int, .int, (.object "jdk/internal/access/JavaLangAccess"), .int]
  resolved := Array.replicate 378 none
  statics := none }

def pool29 : Array CpInfo := pool [(1, u "java/lang/Cloneable"), (0, .class_ 1), (0, u "java/lang/Object"), (0, .class_ 3)] 3

/-- java/lang/Cloneable -/
def k29 : Class := { plain "java/lang/Cloneable" (some 0) with
  accessFlags := 1537
  interfaces := #[]
  cf := some (fileOf pool29 2 #[] #[] 1537 4 #[] #[])
  fields := #[]
  methods := #[]
  instanceTypes := #[]
  staticTypes := #[]
  resolved := Array.replicate 8 none
  statics := none }

/-- the primitive byte -/
def k30 : Class := { plain "byte" none with kind := .primitive 'B', accessFlags := 0x411 }
/-- [B -/
def k31 : Class := { plain "[B" (some 0) with kind := .array 30 .byte, interfaces := #[29, 5], accessFlags := 1041 }

/-- the primitive int -/
def k32 : Class := { plain "int" none with kind := .primitive 'I', accessFlags := 0x411 }
/-- [I -/
def k33 : Class := { plain "[I" (some 0) with kind := .array 32 .int, interfaces := #[29, 5], accessFlags := 1041 }

/-- [Ljava/lang/Object; -/
def k34 : Class := { plain "[Ljava/lang/Object;" (some 0) with kind := .array 0 (.object "java/lang/Object"), interfaces := #[29, 5], accessFlags := 1041 }

def heap : Heap := #[{ cls := 2, slots := #[.ref 8, .ref 9, .null], vm := .statics 2 },
  { cls := 7, slots := #[.null, .null, .ref 7, .null, .null, .null, .null], vm := .statics 7 },
  { cls := 12, slots := #[.long 0, .int 0, .null, .null, .ref 12, .null, .null, .null, .int 0, .int 0], vm := .statics 12 },
  { cls := 15, slots := #[.int 0, .int 0, .null, .null, .ref 11, .ref 10, .int 0, .int 0, .long 0], vm := .statics 15 },
  { cls := 17, slots := #[.long 0, .int 1, .null, .int 0, .null, .int 0, .int 0], vm := .statics 17 },
  { cls := 27, slots := #[.null, .null, .null], vm := .statics 27 },
  { cls := 34, slots := #[], vm := .none },
  { cls := 7, slots := #[.null, .int 2, .int 0], vm := .none },
  { cls := 2, slots := #[.null, .int 0, .null], vm := .none },
  { cls := 2, slots := #[.null, .int 0, .null], vm := .none },
  { cls := 31, slots := #[.int 48, .int 49, .int 50, .int 51, .int 52, .int 53, .int 54, .int 55, .int 56, .int 57, .int 48, .int 49, .int 50, .int 51, .int 52, .int 53, .int 54, .int 55, .int 56, .int 57, .int 48, .int 49, .int 50, .int 51, .int 52, .int 53, .int 54, .int 55, .int 56, .int 57, .int 48, .int 49, .int 50, .int 51, .int 52, .int 53, .int 54, .int 55, .int 56, .int 57, .int 48, .int 49, .int 50, .int 51, .int 52, .int 53, .int 54, .int 55, .int 56, .int 57, .int 48, .int 49, .int 50, .int 51, .int 52, .int 53, .int 54, .int 55, .int 56, .int 57, .int 48, .int 49, .int 50, .int 51, .int 52, .int 53, .int 54, .int 55, .int 56, .int 57, .int 48, .int 49, .int 50, .int 51, .int 52, .int 53, .int 54, .int 55, .int 56, .int 57, .int 48, .int 49, .int 50, .int 51, .int 52, .int 53, .int 54, .int 55, .int 56, .int 57, .int 48, .int 49, .int 50, .int 51, .int 52, .int 53, .int 54, .int 55, .int 56, .int 57], vm := .none },
  { cls := 31, slots := #[.int 48, .int 48, .int 48, .int 48, .int 48, .int 48, .int 48, .int 48, .int 48, .int 48, .int 49, .int 49, .int 49, .int 49, .int 49, .int 49, .int 49, .int 49, .int 49, .int 49, .int 50, .int 50, .int 50, .int 50, .int 50, .int 50, .int 50, .int 50, .int 50, .int 50, .int 51, .int 51, .int 51, .int 51, .int 51, .int 51, .int 51, .int 51, .int 51, .int 51, .int 52, .int 52, .int 52, .int 52, .int 52, .int 52, .int 52, .int 52, .int 52, .int 52, .int 53, .int 53, .int 53, .int 53, .int 53, .int 53, .int 53, .int 53, .int 53, .int 53, .int 54, .int 54, .int 54, .int 54, .int 54, .int 54, .int 54, .int 54, .int 54, .int 54, .int 55, .int 55, .int 55, .int 55, .int 55, .int 55, .int 55, .int 55, .int 55, .int 55, .int 56, .int 56, .int 56, .int 56, .int 56, .int 56, .int 56, .int 56, .int 56, .int 56, .int 57, .int 57, .int 57, .int 57, .int 57, .int 57, .int 57, .int 57, .int 57, .int 57], vm := .none },
  { cls := 22, slots := #[.ref 6, .int 0], vm := .none }]
def classes : Array Class := #[k0, k1, k2, k3, k4, k5, k6, k7, k8, k9, k10, k11, k12, k13, k14, k15, k16, k17, k18, k19, k20, k21, k22, k23, k24, k25, k26, k27, k28, k29, k30, k31, k32, k33, k34]
def interned : List (Array UInt16 × Addr) := []
def slotsUsed : Nat := 250
def theMethod : MethodId := ⟨1, 1⟩
def args0 : Array Value := #[.int 5]
def aboutOver (below : List Frame) : State where
  vm := { classes := classes, interned := interned.toArray }
  heap := heap
  slotsUsed := slotsUsed
  threads := #[{ frames := .invoking theMethod args0 :: below }]
def below0 : List Frame := [.native { method := ⟨0, 0⟩, args := #[] }]
def about1 : State := aboutOver below0
def p0 : Program := .bare "" "" ""
def e0 : Env := launch0.env 0 0 0
theorem w_frames : about1.frames = Frame.invoking theMethod args0 :: below0 := rfl
set_option maxRecDepth 65536 in
theorem w_args : argsFit about1.vm theMethod args0 = true := by decide +kernel
set_option maxRecDepth 65536 in
theorem w_heap : heapFits about1 = true := by decide +kernel
set_option maxRecDepth 65536 in
theorem w_runnable : about1.curStatus? = some .runnable := by decide +kernel
set_option maxRecDepth 65536 in
theorem w_alone : about1.alone = true := by decide +kernel
set_option maxRecDepth 65536 in
theorem w_named : about1.methodNamed? x = some theMethod := by decide +kernel
set_option maxRecDepth 65536 in
theorem w_hears : about1.hears theMethod below0 = true := by decide +kernel
set_option maxRecDepth 65536 in
theorem w_ripe : about1.ripe theMethod args0 below0 = true := by decide +kernel
theorem w_running : about1.status = .running := rfl
set_option maxRecDepth 65536 in
theorem w_room : about1.hasRoom e0.platform room_1 = true :=
  launch0.hasRoom_least _ room_1 (by decide +kernel) (by decide +kernel) (by decide +kernel) (by decide +kernel) (by decide +kernel) (by decide +kernel)
theorem allAtoms_all (ts : List Jvm.Cond) (a : Array Jvm.Value) (st : Jvm.State) : (allAtoms ts).before a st = ts.all (fun c => c.before a st) := by
  induction ts with
  | nil => rfl
  | cons c t ih =>
    show (Jvm.Cond.and c (allAtoms t)).before a st = _
    rw [Jvm.Cond.before_and, ih, List.all_cons]
def words1 : List Jvm.Cond := Jvm.Cond.code x code maxLocals ret :: tables_1
/-- a 'code' word, met by the world's own term for the bytes: nothing is compared byte by byte -/
theorem code_word {y : MethodName} {bytes : ByteArray} {mx : Nat} {rt : Option FieldType} {a : Array Value} {s : State} {m : MethodId} {meth : Method} {c : Code} (h1 : s.methodNamed? y = some m) (h2 : s.vm.method? m = some meth) (h3 : meth.code = some c) (h4 : c.code = bytes)
    (h5 : (c.maxLocals == mx && c.exceptionTable.isEmpty && decide (c.maxStack ≤ mostOperands) && decide (meth.sig.returnType = rt) && !meth.locks && decide (parseMethodDescriptor y.desc = some meth.sig)) = true) : (Jvm.Cond.code y bytes mx rt).before a s = true := by
  simp only [Bool.and_eq_true, beq_iff_eq, Bool.not_eq_true', decide_eq_true_eq] at h5
  obtain ⟨⟨⟨⟨⟨g1, g2⟩, g3⟩, g4⟩, g5⟩, g6⟩ := h5
  simp [Cond.before, Cond.holds, Cond.value, h1, h2, h3, h4, g1, g2, g3, g4, g5, g6]
def isCode : Jvm.Cond → Bool
  | .code _ _ _ _ => true
  | _ => false
theorem all_split {L : List Jvm.Cond} {P : Jvm.Cond → Bool} (h1 : L.all (fun c => isCode c || P c) = true) (h2 : ∀ c ∈ L.filter isCode, P c = true) : L.all P = true := by
  refine List.all_eq_true.mpr fun c hc => ?_
  have h := List.all_eq_true.mp h1 c hc
  rcases Bool.eq_false_or_eq_true (isCode c) with hi | hi
  · exact h2 c (List.mem_filter.mpr ⟨hc, hi⟩)
  · simpa [hi] using h
set_option maxRecDepth 65536 in
theorem w_c0 : (Jvm.Cond.code x code maxLocals ret).before args0 about1 = true := code_word (m := ⟨1, 1⟩) (meth := k1m1) (c := k1c1) (by decide +kernel) rfl rfl rfl (by decide +kernel)
set_option maxRecDepth 65536 in
theorem w_c1 : (Jvm.Cond.code ({ cls := "com/example/endless_runs/endlessruns/automaton/Label", name := "proposition", desc := "(I)Lcom/example/endless_runs/endlessruns/automaton/Label;" } : Jvm.MethodName) prog_19_method_2_code (1 : Nat) (Option.some (Jvm.ClassFile.FieldType.object "com/example/endless_runs/endlessruns/automaton/Label"))).before args0 about1 = true := code_word (m := ⟨2, 1⟩) (meth := k2m1) (c := k2c1) (by decide +kernel) rfl rfl rfl (by decide +kernel)
set_option maxRecDepth 65536 in
theorem w_c2 : (Jvm.Cond.code ({ cls := "java/util/List", name := "of", desc := "()Ljava/util/List;" } : Jvm.MethodName) jdk_40_method_36_code (0 : Nat) (Option.some (Jvm.ClassFile.FieldType.object "java/util/List"))).before args0 about1 = true := code_word (m := ⟨11, 1⟩) (meth := k11m1) (c := k11c1) (by decide +kernel) rfl rfl rfl (by decide +kernel)
set_option maxRecDepth 65536 in
theorem w_c3 : (Jvm.Cond.code ({ cls := "com/example/endless_runs/endlessruns/automaton/Label", name := "<init>", desc := "(Lcom/example/endless_runs/endlessruns/automaton/Label$Kind;ILjava/util/List;)V" } : Jvm.MethodName) prog_19_method_1_code (4 : Nat) (Option.none : Option Jvm.ClassFile.FieldType)).before args0 about1 = true := code_word (m := ⟨2, 0⟩) (meth := k2m0) (c := k2c0) (by decide +kernel) rfl rfl rfl (by decide +kernel)
set_option maxRecDepth 65536 in
theorem w_c4 : (Jvm.Cond.code ({ cls := "java/lang/Object", name := "<init>", desc := "()V" } : Jvm.MethodName) object_method_1_code (1 : Nat) (Option.none : Option Jvm.ClassFile.FieldType)).before args0 about1 = true := code_word (m := ⟨0, 0⟩) (meth := k0m0) (c := k0c0) (by decide +kernel) rfl rfl rfl (by decide +kernel)
set_option maxRecDepth 65536 in
theorem w_c5 : (Jvm.Cond.code ({ cls := "com/example/endless_runs/endlessruns/automaton/Label", name := "toString", desc := "()Ljava/lang/String;" } : Jvm.MethodName) prog_19_method_10_code (2 : Nat) (Option.some (Jvm.ClassFile.FieldType.object "java/lang/String"))).before args0 about1 = true := code_word (m := ⟨2, 3⟩) (meth := k2m3) (c := k2c3) (by decide +kernel) rfl rfl rfl (by decide +kernel)
set_option maxRecDepth 65536 in
theorem w_c6 : (Jvm.Cond.code ({ cls := "java/lang/Enum", name := "ordinal", desc := "()I" } : Jvm.MethodName) jdk_37_method_2_code (1 : Nat) (Option.some Jvm.ClassFile.FieldType.int)).before args0 about1 = true := code_word (m := ⟨6, 0⟩) (meth := k6m0) (c := k6c0) (by decide +kernel) rfl rfl rfl (by decide +kernel)
set_option maxRecDepth 65536 in
theorem w_c7 : (Jvm.Cond.code ({ cls := "java/lang/Integer", name := "toString", desc := "(I)Ljava/lang/String;" } : Jvm.MethodName) jdk_33_method_10_code (3 : Nat) (Option.some (Jvm.ClassFile.FieldType.object "java/lang/String"))).before args0 about1 = true := code_word (m := ⟨15, 0⟩) (meth := k15m0) (c := k15c0) (by decide +kernel) rfl rfl rfl (by decide +kernel)
set_option maxRecDepth 65536 in
theorem w_c8 : (Jvm.Cond.code ({ cls := "java/lang/Integer", name := "stringSize", desc := "(I)I" } : Jvm.MethodName) jdk_33_method_13_code (4 : Nat) (Option.some Jvm.ClassFile.FieldType.int)).before args0 about1 = true := code_word (m := ⟨15, 2⟩) (meth := k15m2) (c := k15c2) (by decide +kernel) rfl rfl rfl (by decide +kernel)
set_option maxRecDepth 65536 in
theorem w_c9 : (Jvm.Cond.code ({ cls := "java/lang/Integer", name := "getChars", desc := "(II[B)I" } : Jvm.MethodName) jdk_33_method_12_code (7 : Nat) (Option.some Jvm.ClassFile.FieldType.int)).before args0 about1 = true := code_word (m := ⟨15, 1⟩) (meth := k15m1) (c := k15c1) (by decide +kernel) rfl rfl rfl (by decide +kernel)
set_option maxRecDepth 65536 in
theorem w_c10 : (Jvm.Cond.code ({ cls := "java/lang/String", name := "<init>", desc := "([BB)V" } : Jvm.MethodName) jdk_42_method_151_code (3 : Nat) (Option.none : Option Jvm.ClassFile.FieldType)).before args0 about1 = true := code_word (m := ⟨17, 3⟩) (meth := k17m3) (c := k17c3) (by decide +kernel) rfl rfl rfl (by decide +kernel)
set_option maxRecDepth 65536 in
theorem w_c11 : (Jvm.Cond.code ({ cls := "com/example/endless_runs/endlessruns/automaton/LabelPropositionPinLaw", name := "digits", desc := "(I)I" } : Jvm.MethodName) method_3_code (1 : Nat) (Option.some Jvm.ClassFile.FieldType.int)).before args0 about1 = true := code_word (m := ⟨1, 2⟩) (meth := k1m2) (c := k1c2) (by decide +kernel) rfl rfl rfl (by decide +kernel)
set_option maxRecDepth 65536 in
theorem w_c12 : (Jvm.Cond.code ({ cls := "com/example/endless_runs/endlessruns/automaton/LabelPropositionPinLaw", name := "pow10", desc := "(I)I" } : Jvm.MethodName) method_4_code (1 : Nat) (Option.some Jvm.ClassFile.FieldType.int)).before args0 about1 = true := code_word (m := ⟨1, 3⟩) (meth := k1m3) (c := k1c3) (by decide +kernel) rfl rfl rfl (by decide +kernel)
set_option maxRecDepth 65536 in
theorem w_c13 : (Jvm.Cond.code ({ cls := "com/example/endless_runs/endlessruns/automaton/Label", name := "getLargestProposition", desc := "()I" } : Jvm.MethodName) prog_19_method_8_code (4 : Nat) (Option.some Jvm.ClassFile.FieldType.int)).before args0 about1 = true := code_word (m := ⟨2, 2⟩) (meth := k2m2) (c := k2c2) (by decide +kernel) rfl rfl rfl (by decide +kernel)
set_option maxRecDepth 65536 in
theorem w_c14 : (Jvm.Cond.code ({ cls := "java/util/ImmutableCollections$AbstractImmutableList", name := "iterator", desc := "()Ljava/util/Iterator;" } : Jvm.MethodName) jdk_46_method_10_code (1 : Nat) (Option.some (Jvm.ClassFile.FieldType.object "java/util/Iterator"))).before args0 about1 = true := code_word (m := ⟨21, 1⟩) (meth := k21m1) (c := k21c1) (by decide +kernel) rfl rfl rfl (by decide +kernel)
set_option maxRecDepth 65536 in
theorem w_c15 : (Jvm.Cond.code ({ cls := "java/util/ImmutableCollections$ListN", name := "size", desc := "()I" } : Jvm.MethodName) jdk_45_method_3_code (1 : Nat) (Option.some Jvm.ClassFile.FieldType.int)).before args0 about1 = true := code_word (m := ⟨22, 0⟩) (meth := k22m0) (c := k22c0) (by decide +kernel) rfl rfl rfl (by decide +kernel)
set_option maxRecDepth 65536 in
theorem w_c16 : (Jvm.Cond.code ({ cls := "java/util/ImmutableCollections$ListItr", name := "<init>", desc := "(Ljava/util/List;I)V" } : Jvm.MethodName) jdk_53_method_1_code (3 : Nat) (Option.none : Option Jvm.ClassFile.FieldType)).before args0 about1 = true := code_word (m := ⟨25, 0⟩) (meth := k25m0) (c := k25c0) (by decide +kernel) rfl rfl rfl (by decide +kernel)
set_option maxRecDepth 65536 in
theorem w_c17 : (Jvm.Cond.code ({ cls := "java/util/ImmutableCollections$ListItr", name := "hasNext", desc := "()Z" } : Jvm.MethodName) jdk_53_method_3_code (1 : Nat) (Option.some Jvm.ClassFile.FieldType.boolean)).before args0 about1 = true := code_word (m := ⟨25, 1⟩) (meth := k25m1) (c := k25c1) (by decide +kernel) rfl rfl rfl (by decide +kernel)
set_option maxRecDepth 65536 in
theorem w_c18 : (Jvm.Cond.code ({ cls := "java/lang/String", name := "length", desc := "()I" } : Jvm.MethodName) jdk_42_method_54_code (1 : Nat) (Option.some Jvm.ClassFile.FieldType.int)).before args0 about1 = true := code_word (m := ⟨17, 1⟩) (meth := k17m1) (c := k17c1) (by decide +kernel) rfl rfl rfl (by decide +kernel)
set_option maxRecDepth 65536 in
theorem w_c19 : (Jvm.Cond.code ({ cls := "java/lang/String", name := "coder", desc := "()B" } : Jvm.MethodName) jdk_42_method_152_code (1 : Nat) (Option.some Jvm.ClassFile.FieldType.byte)).before args0 about1 = true := code_word (m := ⟨17, 4⟩) (meth := k17m4) (c := k17c4) (by decide +kernel) rfl rfl rfl (by decide +kernel)
set_option maxRecDepth 65536 in
theorem w_c20 : (Jvm.Cond.code ({ cls := "java/lang/String", name := "charAt", desc := "(I)C" } : Jvm.MethodName) jdk_42_method_56_code (2 : Nat) (Option.some Jvm.ClassFile.FieldType.char)).before args0 about1 = true := code_word (m := ⟨17, 2⟩) (meth := k17m2) (c := k17c2) (by decide +kernel) rfl rfl rfl (by decide +kernel)
set_option maxRecDepth 65536 in
theorem w_c21 : (Jvm.Cond.code ({ cls := "java/lang/String", name := "isLatin1", desc := "()Z" } : Jvm.MethodName) jdk_42_method_154_code (1 : Nat) (Option.some Jvm.ClassFile.FieldType.boolean)).before args0 about1 = true := code_word (m := ⟨17, 5⟩) (meth := k17m5) (c := k17c5) (by decide +kernel) rfl rfl rfl (by decide +kernel)
set_option maxRecDepth 65536 in
theorem w_c22 : (Jvm.Cond.code ({ cls := "java/lang/StringLatin1", name := "charAt", desc := "([BI)C" } : Jvm.MethodName) jdk_43_method_2_code (2 : Nat) (Option.some Jvm.ClassFile.FieldType.char)).before args0 about1 = true := code_word (m := ⟨26, 1⟩) (meth := k26m1) (c := k26c1) (by decide +kernel) rfl rfl rfl (by decide +kernel)
set_option maxRecDepth 65536 in
theorem w_c23 : (Jvm.Cond.code ({ cls := "java/lang/String", name := "checkIndex", desc := "(II)V" } : Jvm.MethodName) jdk_42_method_155_code (2 : Nat) (Option.none : Option Jvm.ClassFile.FieldType)).before args0 about1 = true := code_word (m := ⟨17, 6⟩) (meth := k17m6) (c := k17c6) (by decide +kernel) rfl rfl rfl (by decide +kernel)
set_option maxRecDepth 65536 in
theorem w_c24 : (Jvm.Cond.code ({ cls := "jdk/internal/util/Preconditions", name := "checkIndex", desc := "(IILjava/util/function/BiFunction;)I" } : Jvm.MethodName) jdk_41_method_11_code (3 : Nat) (Option.some Jvm.ClassFile.FieldType.int)).before args0 about1 = true := code_word (m := ⟨27, 1⟩) (meth := k27m1) (c := k27c1) (by decide +kernel) rfl rfl rfl (by decide +kernel)
def codes1 : List Jvm.Cond := [Jvm.Cond.code x code maxLocals ret, Jvm.Cond.code ({ cls := "com/example/endless_runs/endlessruns/automaton/Label", name := "proposition", desc := "(I)Lcom/example/endless_runs/endlessruns/automaton/Label;" } : Jvm.MethodName) prog_19_method_2_code (1 : Nat) (Option.some (Jvm.ClassFile.FieldType.object "com/example/endless_runs/endlessruns/automaton/Label")), Jvm.Cond.code ({ cls := "java/util/List", name := "of", desc := "()Ljava/util/List;" } : Jvm.MethodName) jdk_40_method_36_code (0 : Nat) (Option.some (Jvm.ClassFile.FieldType.object "java/util/List")), Jvm.Cond.code ({ cls := "com/example/endless_runs/endlessruns/automaton/Label", name := "<init>", desc := "(Lcom/example/endless_runs/endlessruns/automaton/Label$Kind;ILjava/util/List;)V" } : Jvm.MethodName) prog_19_method_1_code (4 : Nat) (Option.none : Option Jvm.ClassFile.FieldType), Jvm.Cond.code ({ cls := "java/lang/Object", name := "<init>", desc := "()V" } : Jvm.MethodName) object_method_1_code (1 : Nat) (Option.none : Option Jvm.ClassFile.FieldType), Jvm.Cond.code ({ cls := "com/example/endless_runs/endlessruns/automaton/Label", name := "toString", desc := "()Ljava/lang/String;" } : Jvm.MethodName) prog_19_method_10_code (2 : Nat) (Option.some (Jvm.ClassFile.FieldType.object "java/lang/String")), Jvm.Cond.code ({ cls := "java/lang/Enum", name := "ordinal", desc := "()I" } : Jvm.MethodName) jdk_37_method_2_code (1 : Nat) (Option.some Jvm.ClassFile.FieldType.int), Jvm.Cond.code ({ cls := "java/lang/Integer", name := "toString", desc := "(I)Ljava/lang/String;" } : Jvm.MethodName) jdk_33_method_10_code (3 : Nat) (Option.some (Jvm.ClassFile.FieldType.object "java/lang/String")), Jvm.Cond.code ({ cls := "java/lang/Integer", name := "stringSize", desc := "(I)I" } : Jvm.MethodName) jdk_33_method_13_code (4 : Nat) (Option.some Jvm.ClassFile.FieldType.int), Jvm.Cond.code ({ cls := "java/lang/Integer", name := "getChars", desc := "(II[B)I" } : Jvm.MethodName) jdk_33_method_12_code (7 : Nat) (Option.some Jvm.ClassFile.FieldType.int), Jvm.Cond.code ({ cls := "java/lang/String", name := "<init>", desc := "([BB)V" } : Jvm.MethodName) jdk_42_method_151_code (3 : Nat) (Option.none : Option Jvm.ClassFile.FieldType), Jvm.Cond.code ({ cls := "com/example/endless_runs/endlessruns/automaton/LabelPropositionPinLaw", name := "digits", desc := "(I)I" } : Jvm.MethodName) method_3_code (1 : Nat) (Option.some Jvm.ClassFile.FieldType.int), Jvm.Cond.code ({ cls := "com/example/endless_runs/endlessruns/automaton/LabelPropositionPinLaw", name := "pow10", desc := "(I)I" } : Jvm.MethodName) method_4_code (1 : Nat) (Option.some Jvm.ClassFile.FieldType.int), Jvm.Cond.code ({ cls := "com/example/endless_runs/endlessruns/automaton/Label", name := "getLargestProposition", desc := "()I" } : Jvm.MethodName) prog_19_method_8_code (4 : Nat) (Option.some Jvm.ClassFile.FieldType.int), Jvm.Cond.code ({ cls := "java/util/ImmutableCollections$AbstractImmutableList", name := "iterator", desc := "()Ljava/util/Iterator;" } : Jvm.MethodName) jdk_46_method_10_code (1 : Nat) (Option.some (Jvm.ClassFile.FieldType.object "java/util/Iterator")), Jvm.Cond.code ({ cls := "java/util/ImmutableCollections$ListN", name := "size", desc := "()I" } : Jvm.MethodName) jdk_45_method_3_code (1 : Nat) (Option.some Jvm.ClassFile.FieldType.int), Jvm.Cond.code ({ cls := "java/util/ImmutableCollections$ListItr", name := "<init>", desc := "(Ljava/util/List;I)V" } : Jvm.MethodName) jdk_53_method_1_code (3 : Nat) (Option.none : Option Jvm.ClassFile.FieldType), Jvm.Cond.code ({ cls := "java/util/ImmutableCollections$ListItr", name := "hasNext", desc := "()Z" } : Jvm.MethodName) jdk_53_method_3_code (1 : Nat) (Option.some Jvm.ClassFile.FieldType.boolean), Jvm.Cond.code ({ cls := "java/lang/String", name := "length", desc := "()I" } : Jvm.MethodName) jdk_42_method_54_code (1 : Nat) (Option.some Jvm.ClassFile.FieldType.int), Jvm.Cond.code ({ cls := "java/lang/String", name := "coder", desc := "()B" } : Jvm.MethodName) jdk_42_method_152_code (1 : Nat) (Option.some Jvm.ClassFile.FieldType.byte), Jvm.Cond.code ({ cls := "java/lang/String", name := "charAt", desc := "(I)C" } : Jvm.MethodName) jdk_42_method_56_code (2 : Nat) (Option.some Jvm.ClassFile.FieldType.char), Jvm.Cond.code ({ cls := "java/lang/String", name := "isLatin1", desc := "()Z" } : Jvm.MethodName) jdk_42_method_154_code (1 : Nat) (Option.some Jvm.ClassFile.FieldType.boolean), Jvm.Cond.code ({ cls := "java/lang/StringLatin1", name := "charAt", desc := "([BI)C" } : Jvm.MethodName) jdk_43_method_2_code (2 : Nat) (Option.some Jvm.ClassFile.FieldType.char), Jvm.Cond.code ({ cls := "java/lang/String", name := "checkIndex", desc := "(II)V" } : Jvm.MethodName) jdk_42_method_155_code (2 : Nat) (Option.none : Option Jvm.ClassFile.FieldType), Jvm.Cond.code ({ cls := "jdk/internal/util/Preconditions", name := "checkIndex", desc := "(IILjava/util/function/BiFunction;)I" } : Jvm.MethodName) jdk_41_method_11_code (3 : Nat) (Option.some Jvm.ClassFile.FieldType.int)]
set_option maxRecDepth 65536 in
theorem codes_eq : words1.filter isCode = codes1 := rfl
theorem w_codes : ∀ c ∈ words1.filter isCode, c.before args0 about1 = true := by
  rw [codes_eq]
  intro c hc
  simp only [codes1, List.mem_cons, List.not_mem_nil, or_false] at hc
  rcases hc with rfl | rfl | rfl | rfl | rfl | rfl | rfl | rfl | rfl | rfl | rfl | rfl | rfl | rfl | rfl | rfl | rfl | rfl | rfl | rfl | rfl | rfl | rfl | rfl | rfl
  · exact w_c0
  · exact w_c1
  · exact w_c2
  · exact w_c3
  · exact w_c4
  · exact w_c5
  · exact w_c6
  · exact w_c7
  · exact w_c8
  · exact w_c9
  · exact w_c10
  · exact w_c11
  · exact w_c12
  · exact w_c13
  · exact w_c14
  · exact w_c15
  · exact w_c16
  · exact w_c17
  · exact w_c18
  · exact w_c19
  · exact w_c20
  · exact w_c21
  · exact w_c22
  · exact w_c23
  · exact w_c24
set_option maxRecDepth 65536 in
theorem w_t1 : (words1.take 24).all (fun c => isCode c || c.before args0 about1) = true := by decide +kernel
set_option maxRecDepth 65536 in
theorem w_t2 : ((words1.drop 24).take 24).all (fun c => isCode c || c.before args0 about1) = true := by decide +kernel
set_option maxRecDepth 65536 in
theorem w_t3 : (((words1.drop 24).drop 24).take 24).all (fun c => isCode c || c.before args0 about1) = true := by decide +kernel
set_option maxRecDepth 65536 in
theorem w_t4 : ((((words1.drop 24).drop 24).drop 24).take 24).all (fun c => isCode c || c.before args0 about1) = true := by decide +kernel
set_option maxRecDepth 65536 in
theorem w_t5 : (((((words1.drop 24).drop 24).drop 24).drop 24).take 24).all (fun c => isCode c || c.before args0 about1) = true := by decide +kernel
set_option maxRecDepth 65536 in
theorem w_t6 : ((((((words1.drop 24).drop 24).drop 24).drop 24).drop 24).take 24).all (fun c => isCode c || c.before args0 about1) = true := by decide +kernel
set_option maxRecDepth 65536 in
theorem w_t7 : ((((((words1.drop 24).drop 24).drop 24).drop 24).drop 24).drop 24).all (fun c => isCode c || c.before args0 about1) = true := by decide +kernel
theorem w_tables : (allAtoms (Jvm.Cond.code x code maxLocals ret :: tables_1)).before args0 about1 = true := by
  rw [allAtoms_all]
  show words1.all (fun c => c.before args0 about1) = true
  refine all_split ?_ w_codes
  rw [← List.take_append_drop 24 words1, List.all_append, w_t1, ← List.take_append_drop 24 (words1.drop 24), List.all_append, w_t2, ← List.take_append_drop 24 ((words1.drop 24).drop 24), List.all_append, w_t3, ← List.take_append_drop 24 (((words1.drop 24).drop 24).drop 24), List.all_append, w_t4, ← List.take_append_drop 24 ((((words1.drop 24).drop 24).drop 24).drop 24), List.all_append, w_t5, ← List.take_append_drop 24 (((((words1.drop 24).drop 24).drop 24).drop 24).drop 24), List.all_append, w_t6, w_t7]
  rfl
set_option maxRecDepth 65536 in
theorem w_rest : rest_1_c.before args0 about1 = true := by decide +kernel
set_option maxRecDepth 65536 in
theorem w_case : (Jvm.Cond.and given_1 narrow_1).before args0 about1 = true := by decide +kernel
theorem w_applies : (headSpec (Jvm.Cond.code x code maxLocals ret :: tables_1) room_1).applies x e0.platform about1 = true :=
  (Spec.applies_iff w_frames).mpr ⟨w_running, w_runnable, w_alone, w_named, w_hears, w_ripe, w_room, w_tables⟩
theorem atStart : AtStart classFile x code maxLocals ret World_1 tables_1 room_1 Calls_1 rest_1 Pre_1 launch0 p0 e0 about1 theMethod args0 below0 :=
  ⟨lists_1, trivial, launch0.admits_env _ _ _, launch0.least_env, fairChoices_fair.cas, fairChoices_fair.clock, w_frames, w_args, w_heap, w_applies, trivial, w_rest, w_case⟩
end start1
theorem witness_1 : WitnessClaimed_1 := ⟨start1.p0, start1.e0, start1.about1, start1.theMethod, start1.args0, start1.below0, start1.atStart⟩
end Jvm.Pilot.@@N@@
