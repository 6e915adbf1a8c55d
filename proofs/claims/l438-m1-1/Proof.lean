import JvmDerived
import JvmDerived.Pilot.@@N@@Statement
import JvmDerived.Pilot.@@N@@Code
set_option linter.unusedVariables false
set_option linter.unusedSimpArgs false
namespace Jvm.RoadKit
open Sem ClassFile Op Lib Jvm.Stand Jvm.Free Jvm.LawKit
section New
variable {p : Program} {l : Launch} {e : Env} {R : Room} {s : State} {m : MethodId} {args : Array Value} {below : List Frame} {meth : Method} {c : Code} {T : State} {locs : List Loc} {cells slots : Nat}
theorem retI (X : Stand p l e R s m args below meth c T locs cells slots) (hx : p.tables.exec = Jvm.exec) {pc : Nat} {Ls : Array Slot} {z : Int32} {rest : List Value} (hret : meth.sig.returnType = some .int) (hd : decode c.code pc = .ok (.ireturn, 1)) {fs : List Frame}
    (hl : ∀ (f : JFrame) (acts : List Action), f.method = m → f.locked = none → f.entered = [] → (doReturn e (T.setTop f) acts (some (.int z))).1 = T.setFrames fs) : Steps p.tables e below (T.setTop (mkF m pc Ls (.int z :: rest))) (T.setFrames fs) := by
  have hm' : T.vm.method? m = some meth := X.method'
  have hn : narrow .int (.int z) = .int z := rfl
  show Steps p.tables e below (T.setTop { method := m, pc := pc, locals := Ls, stack := _ :: rest, locked := none }) _
  jvm_step X.here [X.here.top, hx, hd, hm', hret, hn]
  first | (intro acts; rw [hl _ acts rfl rfl rfl]) | rw [hl _ _ rfl rfl rfl]
  exact Steps.refl _
end New
end Jvm.RoadKit
@@BLOCK:NumsL.lean.txt@@
namespace Jvm.Pilot.@@N@@
open Jvm Jvm.ClassFile Sem Op Lib Jvm.Free Jvm.Stand Jvm.LawKit Jvm.RoadKit Bundle Jvm.Pilot.@@N@@.Jvm.D
theorem own_selP {s : State} {args args' : Array Value} {y x z : MethodName} {C : String} (h : (Jvm.Cond.selects C x z).before args' s = true) (hz : z.cls = y.cls) (hp : s.PrivateAt y) (hi : (Jvm.Cond.instanceMethod y).before args s = true) (hy : y.cls ≠ "java/lang/invoke/MethodHandle" ∧ y.cls ≠ "java/lang/invoke/VarHandle") : (Jvm.Cond.selects y.cls y y).before args s = true := by
  obtain ⟨c2, r2, m2, -, -, q3, -, kP, hkP, hkPi⟩ := Cond.selects_spec h
  exact Jvm.Stand.selects_self_of_private (hz ▸ findClass_of_methodNamed q3) hkP hkPi hp hi hy
theorem own_sameP {s : State} {args : Array Value} {y x z : MethodName} {C : String} (h : (Jvm.Cond.selects C x z).before args s = true) (hz : z.cls = y.cls) (hi : (Jvm.Cond.instanceMethod y).before args s = true) (hy : y.cls ≠ "java/lang/invoke/MethodHandle" ∧ y.cls ≠ "java/lang/invoke/VarHandle") : (Jvm.Cond.sameMethod y.cls y.cls y.name y.desc).before args s = true := by
  obtain ⟨c2, r2, m2, -, -, q3, -, kP, hkP, hkPi⟩ := Cond.selects_spec h
  obtain ⟨mk, methM, hnamed, hmethM, -, -⟩ := Cond.instanceMethod_spec hi
  have hf := State.methodFound?_of_named hnamed hy
  have hc := findClass_of_methodNamed hnamed
  have hc2 : s.vm.findClass y.cls = some m2.cls := hz ▸ findClass_of_methodNamed q3
  have e : mk.cls = m2.cls := Option.some.inj (hc.symm.trans hc2)
  simp [Cond.before, Cond.holds, Cond.value, hc, hf, hnamed, e, hkP, hkPi]
theorem own_nf {s : State} {args : Array Value} {y x z : MethodName} {C : String} (h : (Jvm.Cond.selects C x z).before args s = true) (hz : z.cls = y.cls) : NotFace s y := fun r0 h0 => by
  obtain ⟨c2, r2, m2, -, -, q3, -, kP, hkP, hkPi⟩ := Cond.selects_spec h
  have hc2 : s.vm.findClass y.cls = some m2.cls := hz ▸ findClass_of_methodNamed q3
  have e : r0.cls = m2.cls := Option.some.inj ((findClass_of_methodNamed h0).symm.trans hc2)
  exact ⟨kP, by rw [e]; exact hkP, hkPi⟩
abbrev mn0 : MethodName := ⟨"com/example/beanloft/beanloft/naming/GlobalNameFormsPinLaw", "ch", "(I)C"⟩
abbrev mn1 : MethodName := ⟨"java/lang/String", "<init>", "([BB)V"⟩
abbrev mn2 : MethodName := ⟨"java/lang/StringLatin1", "canEncode", "(C)Z"⟩
abbrev mn3 : MethodName := ⟨"java/lang/StringLatin1", "toBytes", "(C)[B"⟩
abbrev mn4 : MethodName := ⟨"java/lang/String", "valueOf", "(C)Ljava/lang/String;"⟩
abbrev mn5 : MethodName := ⟨"java/lang/Record", "<init>", "()V"⟩
abbrev mn6 : MethodName := ⟨"java/util/Objects", "requireNonNull", "(Ljava/lang/Object;Ljava/lang/String;)Ljava/lang/Object;"⟩
abbrev mn7 : MethodName := ⟨"java/lang/String", "toString", "()Ljava/lang/String;"⟩
abbrev mn8 : MethodName := ⟨"java/lang/String", "coder", "()B"⟩
abbrev mn9 : MethodName := ⟨"java/lang/String", "isLatin1", "()Z"⟩
abbrev mn10 : MethodName := ⟨"java/lang/String", "isEmpty", "()Z"⟩
abbrev mn11 : MethodName := ⟨"java/lang/StringLatin1", "indexOf", "([BI[BII)I"⟩
abbrev mn12 : MethodName := ⟨"java/lang/StringLatin1", "indexOf", "([B[B)I"⟩
abbrev mn13 : MethodName := ⟨"java/lang/String", "indexOf", "(Ljava/lang/String;)I"⟩
abbrev mn14 : MethodName := ⟨"java/lang/CharSequence", "toString", "()Ljava/lang/String;"⟩
abbrev mn15 : MethodName := ⟨"java/lang/String", "contains", "(Ljava/lang/CharSequence;)Z"⟩
abbrev mn16 : MethodName := ⟨"com/example/beanloft/beanloft/naming/GlobalName", "checkSegment", "(Ljava/lang/String;Ljava/lang/String;Ljava/lang/String;Ljava/lang/String;)V"⟩
abbrev mn17 : MethodName := ⟨"com/example/beanloft/beanloft/naming/GlobalName", "<init>", "(Ljava/lang/String;Ljava/lang/String;Ljava/lang/String;Ljava/lang/String;)V"⟩
abbrev mn18 : MethodName := ⟨"java/util/Objects", "requireNonNull", "(Ljava/lang/Object;)Ljava/lang/Object;"⟩
abbrev mn19 : MethodName := ⟨"java/util/AbstractCollection", "<init>", "()V"⟩
abbrev mn20 : MethodName := ⟨"java/util/ImmutableCollections$AbstractImmutableCollection", "<init>", "()V"⟩
abbrev mn21 : MethodName := ⟨"java/util/ImmutableCollections$AbstractImmutableList", "<init>", "()V"⟩
abbrev mn22 : MethodName := ⟨"java/util/ImmutableCollections$List12", "<init>", "(Ljava/lang/Object;)V"⟩
abbrev mn23 : MethodName := ⟨"java/util/ImmutableCollections$List12", "<init>", "(Ljava/lang/Object;Ljava/lang/Object;)V"⟩
abbrev mn24 : MethodName := ⟨"java/util/List", "of", "(Ljava/lang/Object;)Ljava/util/List;"⟩
abbrev mn25 : MethodName := ⟨"java/util/List", "of", "(Ljava/lang/Object;Ljava/lang/Object;)Ljava/util/List;"⟩
abbrev mn26 : MethodName := ⟨"java/util/ImmutableCollections$List12", "size", "()I"⟩
abbrev mn27 : MethodName := ⟨"java/util/ImmutableCollections$List12", "get", "(I)Ljava/lang/Object;"⟩
abbrev mn28 : MethodName := ⟨"com/example/beanloft/beanloft/naming/GlobalName", "appName", "()Ljava/lang/String;"⟩
abbrev mn29 : MethodName := ⟨"com/example/beanloft/beanloft/naming/GlobalName", "moduleName", "()Ljava/lang/String;"⟩
abbrev mn30 : MethodName := ⟨"com/example/beanloft/beanloft/naming/GlobalName", "beanName", "()Ljava/lang/String;"⟩
abbrev mn31 : MethodName := ⟨"com/example/beanloft/beanloft/naming/GlobalName", "viewName", "()Ljava/lang/String;"⟩
abbrev mn32 : MethodName := ⟨"java/lang/String", "equals", "(Ljava/lang/Object;)Z"⟩
abbrev mn33 : MethodName := ⟨"com/example/beanloft/beanloft/naming/GlobalNameFormsPinLaw", "eq", "(Ljava/lang/String;Ljava/lang/String;)Z"⟩
abbrev mn34 : MethodName := ⟨"com/example/beanloft/beanloft/naming/GlobalNameFormsPinLaw", "same", "(Lcom/example/beanloft/beanloft/naming/GlobalName;Ljava/lang/String;Ljava/lang/String;Ljava/lang/String;Ljava/lang/String;)Z"⟩
abbrev mn35 : MethodName := ⟨"com/example/beanloft/beanloft/naming/GlobalName", "forms", "(I)Ljava/util/List;"⟩
abbrev mn36 : MethodName := ⟨"java/util/List", "size", "()I"⟩
abbrev mn37 : MethodName := ⟨"java/util/List", "get", "(I)Ljava/lang/Object;"⟩
theorem wd0 {a0 : Array Value} {Z : State} (hw : ∀ d ∈ tables_1, d.before a0 Z = true) : (Jvm.Cond.methodLink "com/example/beanloft/beanloft/naming/GlobalNameFormsPinLaw" (7 : Nat) ({ cls := "com/example/beanloft/beanloft/naming/GlobalNameFormsPinLaw", name := "ch", desc := "(I)C" } : Jvm.MethodName)).before a0 Z = true := hw _ (List.mem_of_getElem? (i := 0) rfl)
theorem wd1 {a0 : Array Value} {Z : State} (hw : ∀ d ∈ tables_1, d.before a0 Z = true) : (Jvm.Cond.static ({ cls := "com/example/beanloft/beanloft/naming/GlobalNameFormsPinLaw", name := "ch", desc := "(I)C" } : Jvm.MethodName)).before a0 Z = true := hw _ (List.mem_of_getElem? (i := 1) rfl)
theorem wd2 {a0 : Array Value} {Z : State} (hw : ∀ d ∈ tables_1, d.before a0 Z = true) : (Jvm.Cond.initialized "com/example/beanloft/beanloft/naming/GlobalNameFormsPinLaw").before a0 Z = true := hw _ (List.mem_of_getElem? (i := 2) rfl)
theorem wd3 {a0 : Array Value} {Z : State} (hw : ∀ d ∈ tables_1, d.before a0 Z = true) : (Jvm.Cond.code ({ cls := "com/example/beanloft/beanloft/naming/GlobalNameFormsPinLaw", name := "ch", desc := "(I)C" } : Jvm.MethodName) method_3_code (2 : Nat) (Option.some Jvm.ClassFile.FieldType.char)).before a0 Z = true := hw _ (List.mem_of_getElem? (i := 3) rfl)
theorem wd4 {a0 : Array Value} {Z : State} (hw : ∀ d ∈ tables_1, d.before a0 Z = true) : (Jvm.Cond.methodLink "com/example/beanloft/beanloft/naming/GlobalNameFormsPinLaw" (13 : Nat) ({ cls := "java/lang/String", name := "valueOf", desc := "(C)Ljava/lang/String;" } : Jvm.MethodName)).before a0 Z = true := hw _ (List.mem_of_getElem? (i := 4) rfl)
theorem wd5 {a0 : Array Value} {Z : State} (hw : ∀ d ∈ tables_1, d.before a0 Z = true) : (Jvm.Cond.static ({ cls := "java/lang/String", name := "valueOf", desc := "(C)Ljava/lang/String;" } : Jvm.MethodName)).before a0 Z = true := hw _ (List.mem_of_getElem? (i := 5) rfl)
theorem wd6 {a0 : Array Value} {Z : State} (hw : ∀ d ∈ tables_1, d.before a0 Z = true) : (Jvm.Cond.initialized "java/lang/String").before a0 Z = true := hw _ (List.mem_of_getElem? (i := 6) rfl)
theorem wd7 {a0 : Array Value} {Z : State} (hw : ∀ d ∈ tables_1, d.before a0 Z = true) : (Jvm.Cond.code ({ cls := "java/lang/String", name := "valueOf", desc := "(C)Ljava/lang/String;" } : Jvm.MethodName) jdk_42_method_139_code (1 : Nat) (Option.some (Jvm.ClassFile.FieldType.object "java/lang/String"))).before a0 Z = true := hw _ (List.mem_of_getElem? (i := 7) rfl)
theorem wd8 {a0 : Array Value} {Z : State} (hw : ∀ d ∈ tables_1, d.before a0 Z = true) : (Jvm.Cond.fieldLink "java/lang/String" (38 : Nat) "java/lang/String" "COMPACT_STRINGS" "Z").before a0 Z = true := hw _ (List.mem_of_getElem? (i := 8) rfl)
theorem wd9 {a0 : Array Value} {Z : State} (hw : ∀ d ∈ tables_1, d.before a0 Z = true) : (Jvm.Cond.methodLink "java/lang/String" (1015 : Nat) ({ cls := "java/lang/StringLatin1", name := "canEncode", desc := "(C)Z" } : Jvm.MethodName)).before a0 Z = true := hw _ (List.mem_of_getElem? (i := 9) rfl)
theorem wd10 {a0 : Array Value} {Z : State} (hw : ∀ d ∈ tables_1, d.before a0 Z = true) : (Jvm.Cond.static ({ cls := "java/lang/StringLatin1", name := "canEncode", desc := "(C)Z" } : Jvm.MethodName)).before a0 Z = true := hw _ (List.mem_of_getElem? (i := 10) rfl)
theorem wd11 {a0 : Array Value} {Z : State} (hw : ∀ d ∈ tables_1, d.before a0 Z = true) : (Jvm.Cond.initialized "java/lang/StringLatin1").before a0 Z = true := hw _ (List.mem_of_getElem? (i := 11) rfl)
theorem wd12 {a0 : Array Value} {Z : State} (hw : ∀ d ∈ tables_1, d.before a0 Z = true) : (Jvm.Cond.code ({ cls := "java/lang/StringLatin1", name := "canEncode", desc := "(C)Z" } : Jvm.MethodName) jdk_43_method_3_code (1 : Nat) (Option.some Jvm.ClassFile.FieldType.boolean)).before a0 Z = true := hw _ (List.mem_of_getElem? (i := 12) rfl)
theorem wd13 {a0 : Array Value} {Z : State} (hw : ∀ d ∈ tables_1, d.before a0 Z = true) : (Jvm.Cond.classLink "java/lang/String" (10 : Nat) "java/lang/String").before a0 Z = true := hw _ (List.mem_of_getElem? (i := 13) rfl)
theorem wd14 {a0 : Array Value} {Z : State} (hw : ∀ d ∈ tables_1, d.before a0 Z = true) : (Jvm.Cond.instantiable "java/lang/String" (4 : Nat)).before a0 Z = true := hw _ (List.mem_of_getElem? (i := 14) rfl)
theorem wd15 {a0 : Array Value} {Z : State} (hw : ∀ d ∈ tables_1, d.before a0 Z = true) : (Jvm.Cond.methodLink "java/lang/String" (1018 : Nat) ({ cls := "java/lang/StringLatin1", name := "toBytes", desc := "(C)[B" } : Jvm.MethodName)).before a0 Z = true := hw _ (List.mem_of_getElem? (i := 15) rfl)
theorem wd16 {a0 : Array Value} {Z : State} (hw : ∀ d ∈ tables_1, d.before a0 Z = true) : (Jvm.Cond.static ({ cls := "java/lang/StringLatin1", name := "toBytes", desc := "(C)[B" } : Jvm.MethodName)).before a0 Z = true := hw _ (List.mem_of_getElem? (i := 16) rfl)
theorem wd17 {a0 : Array Value} {Z : State} (hw : ∀ d ∈ tables_1, d.before a0 Z = true) : (Jvm.Cond.code ({ cls := "java/lang/StringLatin1", name := "toBytes", desc := "(C)[B" } : Jvm.MethodName) jdk_43_method_46_code (1 : Nat) (Option.some (Jvm.ClassFile.FieldType.array Jvm.ClassFile.FieldType.byte))).before a0 Z = true := hw _ (List.mem_of_getElem? (i := 17) rfl)
theorem wd18 {a0 : Array Value} {Z : State} (hw : ∀ d ∈ tables_1, d.before a0 Z = true) : (Jvm.Cond.arrayClass Jvm.ClassFile.FieldType.byte).before a0 Z = true := hw _ (List.mem_of_getElem? (i := 18) rfl)
theorem wd19 {a0 : Array Value} {Z : State} (hw : ∀ d ∈ tables_1, d.before a0 Z = true) : (Jvm.Cond.methodLink "java/lang/String" (209 : Nat) ({ cls := "java/lang/String", name := "<init>", desc := "([BB)V" } : Jvm.MethodName)).before a0 Z = true := hw _ (List.mem_of_getElem? (i := 19) rfl)
theorem wd20 {a0 : Array Value} {Z : State} (hw : ∀ d ∈ tables_1, d.before a0 Z = true) : (Jvm.Cond.instanceMethod ({ cls := "java/lang/String", name := "<init>", desc := "([BB)V" } : Jvm.MethodName)).before a0 Z = true := hw _ (List.mem_of_getElem? (i := 20) rfl)
theorem wd22 {a0 : Array Value} {Z : State} (hw : ∀ d ∈ tables_1, d.before a0 Z = true) : (Jvm.Cond.code ({ cls := "java/lang/String", name := "<init>", desc := "([BB)V" } : Jvm.MethodName) jdk_42_method_151_code (3 : Nat) (Option.none : Option Jvm.ClassFile.FieldType)).before a0 Z = true := hw _ (List.mem_of_getElem? (i := 22) rfl)
theorem wd23 {a0 : Array Value} {Z : State} (hw : ∀ d ∈ tables_1, d.before a0 Z = true) : (Jvm.Cond.methodLink "java/lang/String" (1 : Nat) ({ cls := "java/lang/Object", name := "<init>", desc := "()V" } : Jvm.MethodName)).before a0 Z = true := hw _ (List.mem_of_getElem? (i := 23) rfl)
theorem wd24 {a0 : Array Value} {Z : State} (hw : ∀ d ∈ tables_1, d.before a0 Z = true) : (Jvm.Cond.instanceMethod ({ cls := "java/lang/Object", name := "<init>", desc := "()V" } : Jvm.MethodName)).before a0 Z = true := hw _ (List.mem_of_getElem? (i := 24) rfl)
theorem wd25 {a0 : Array Value} {Z : State} (hw : ∀ d ∈ tables_1, d.before a0 Z = true) : (Jvm.Cond.code ({ cls := "java/lang/Object", name := "<init>", desc := "()V" } : Jvm.MethodName) object_method_1_code (1 : Nat) (Option.none : Option Jvm.ClassFile.FieldType)).before a0 Z = true := hw _ (List.mem_of_getElem? (i := 25) rfl)
theorem wd26 {a0 : Array Value} {Z : State} (hw : ∀ d ∈ tables_1, d.before a0 Z = true) : (Jvm.Cond.fieldLink "java/lang/String" (9 : Nat) "java/lang/String" "value" "[B").before a0 Z = true := hw _ (List.mem_of_getElem? (i := 26) rfl)
theorem wd27 {a0 : Array Value} {Z : State} (hw : ∀ d ∈ tables_1, d.before a0 Z = true) : (Jvm.Cond.laysFinal "java/lang/String" "java/lang/String" "value" "[B").before a0 Z = true := hw _ (List.mem_of_getElem? (i := 27) rfl)
theorem wd28 {a0 : Array Value} {Z : State} (hw : ∀ d ∈ tables_1, d.before a0 Z = true) : (Jvm.Cond.fieldLink "java/lang/String" (15 : Nat) "java/lang/String" "coder" "B").before a0 Z = true := hw _ (List.mem_of_getElem? (i := 28) rfl)
theorem wd29 {a0 : Array Value} {Z : State} (hw : ∀ d ∈ tables_1, d.before a0 Z = true) : (Jvm.Cond.laysFinal "java/lang/String" "java/lang/String" "coder" "B").before a0 Z = true := hw _ (List.mem_of_getElem? (i := 29) rfl)
theorem wd30 {a0 : Array Value} {Z : State} (hw : ∀ d ∈ tables_1, d.before a0 Z = true) : (Jvm.Cond.classLink "com/example/beanloft/beanloft/naming/GlobalNameFormsPinLaw" (19 : Nat) "com/example/beanloft/beanloft/naming/GlobalName").before a0 Z = true := hw _ (List.mem_of_getElem? (i := 30) rfl)
theorem wd31 {a0 : Array Value} {Z : State} (hw : ∀ d ∈ tables_1, d.before a0 Z = true) : (Jvm.Cond.instantiable "com/example/beanloft/beanloft/naming/GlobalName" (4 : Nat)).before a0 Z = true := hw _ (List.mem_of_getElem? (i := 31) rfl)
theorem wd32 {a0 : Array Value} {Z : State} (hw : ∀ d ∈ tables_1, d.before a0 Z = true) : (Jvm.Cond.initialized "com/example/beanloft/beanloft/naming/GlobalName").before a0 Z = true := hw _ (List.mem_of_getElem? (i := 32) rfl)
theorem wd33 {a0 : Array Value} {Z : State} (hw : ∀ d ∈ tables_1, d.before a0 Z = true) : (Jvm.Cond.methodLink "com/example/beanloft/beanloft/naming/GlobalNameFormsPinLaw" (21 : Nat) ({ cls := "com/example/beanloft/beanloft/naming/GlobalName", name := "<init>", desc := "(Ljava/lang/String;Ljava/lang/String;Ljava/lang/String;Ljava/lang/String;)V" } : Jvm.MethodName)).before a0 Z = true := hw _ (List.mem_of_getElem? (i := 33) rfl)
theorem wd34 {a0 : Array Value} {Z : State} (hw : ∀ d ∈ tables_1, d.before a0 Z = true) : (Jvm.Cond.instanceMethod ({ cls := "com/example/beanloft/beanloft/naming/GlobalName", name := "<init>", desc := "(Ljava/lang/String;Ljava/lang/String;Ljava/lang/String;Ljava/lang/String;)V" } : Jvm.MethodName)).before a0 Z = true := hw _ (List.mem_of_getElem? (i := 34) rfl)
theorem wd35 {a0 : Array Value} {Z : State} (hw : ∀ d ∈ tables_1, d.before a0 Z = true) : (Jvm.Cond.code ({ cls := "com/example/beanloft/beanloft/naming/GlobalName", name := "<init>", desc := "(Ljava/lang/String;Ljava/lang/String;Ljava/lang/String;Ljava/lang/String;)V" } : Jvm.MethodName) prog_9_method_1_code (5 : Nat) (Option.none : Option Jvm.ClassFile.FieldType)).before a0 Z = true := hw _ (List.mem_of_getElem? (i := 35) rfl)
theorem wd36 {a0 : Array Value} {Z : State} (hw : ∀ d ∈ tables_1, d.before a0 Z = true) : (Jvm.Cond.methodLink "com/example/beanloft/beanloft/naming/GlobalName" (1 : Nat) ({ cls := "java/lang/Record", name := "<init>", desc := "()V" } : Jvm.MethodName)).before a0 Z = true := hw _ (List.mem_of_getElem? (i := 36) rfl)
theorem wd37 {a0 : Array Value} {Z : State} (hw : ∀ d ∈ tables_1, d.before a0 Z = true) : (Jvm.Cond.instanceMethod ({ cls := "java/lang/Record", name := "<init>", desc := "()V" } : Jvm.MethodName)).before a0 Z = true := hw _ (List.mem_of_getElem? (i := 37) rfl)
theorem wd39 {a0 : Array Value} {Z : State} (hw : ∀ d ∈ tables_1, d.before a0 Z = true) : (Jvm.Cond.initialized "java/lang/Record").before a0 Z = true := hw _ (List.mem_of_getElem? (i := 39) rfl)
theorem wd40 {a0 : Array Value} {Z : State} (hw : ∀ d ∈ tables_1, d.before a0 Z = true) : (Jvm.Cond.code ({ cls := "java/lang/Record", name := "<init>", desc := "()V" } : Jvm.MethodName) jdk_30_method_1_code (1 : Nat) (Option.none : Option Jvm.ClassFile.FieldType)).before a0 Z = true := hw _ (List.mem_of_getElem? (i := 40) rfl)
theorem wd41 {a0 : Array Value} {Z : State} (hw : ∀ d ∈ tables_1, d.before a0 Z = true) : (Jvm.Cond.methodLink "java/lang/Record" (1 : Nat) ({ cls := "java/lang/Object", name := "<init>", desc := "()V" } : Jvm.MethodName)).before a0 Z = true := hw _ (List.mem_of_getElem? (i := 41) rfl)
theorem wd42 {a0 : Array Value} {Z : State} (hw : ∀ d ∈ tables_1, d.before a0 Z = true) : (Jvm.Cond.stringLink "com/example/beanloft/beanloft/naming/GlobalName" (7 : Nat) "moduleName").before a0 Z = true := hw _ (List.mem_of_getElem? (i := 42) rfl)
theorem wd45 {a0 : Array Value} {Z : State} (hw : ∀ d ∈ tables_1, d.before a0 Z = true) : (Jvm.Cond.methodLink "com/example/beanloft/beanloft/naming/GlobalName" (9 : Nat) ({ cls := "java/util/Objects", name := "requireNonNull", desc := "(Ljava/lang/Object;Ljava/lang/String;)Ljava/lang/Object;" } : Jvm.MethodName)).before a0 Z = true := hw _ (List.mem_of_getElem? (i := 45) rfl)
theorem wd46 {a0 : Array Value} {Z : State} (hw : ∀ d ∈ tables_1, d.before a0 Z = true) : (Jvm.Cond.static ({ cls := "java/util/Objects", name := "requireNonNull", desc := "(Ljava/lang/Object;Ljava/lang/String;)Ljava/lang/Object;" } : Jvm.MethodName)).before a0 Z = true := hw _ (List.mem_of_getElem? (i := 46) rfl)
theorem wd47 {a0 : Array Value} {Z : State} (hw : ∀ d ∈ tables_1, d.before a0 Z = true) : (Jvm.Cond.initialized "java/util/Objects").before a0 Z = true := hw _ (List.mem_of_getElem? (i := 47) rfl)
theorem wd48 {a0 : Array Value} {Z : State} (hw : ∀ d ∈ tables_1, d.before a0 Z = true) : (Jvm.Cond.code ({ cls := "java/util/Objects", name := "requireNonNull", desc := "(Ljava/lang/Object;Ljava/lang/String;)Ljava/lang/Object;" } : Jvm.MethodName) jdk_31_method_11_code (2 : Nat) (Option.some (Jvm.ClassFile.FieldType.object "java/lang/Object"))).before a0 Z = true := hw _ (List.mem_of_getElem? (i := 48) rfl)
theorem wd49 {a0 : Array Value} {Z : State} (hw : ∀ d ∈ tables_1, d.before a0 Z = true) : (Jvm.Cond.stringLink "com/example/beanloft/beanloft/naming/GlobalName" (15 : Nat) "beanName").before a0 Z = true := hw _ (List.mem_of_getElem? (i := 49) rfl)
theorem wd50 {a0 : Array Value} {Z : State} (hw : ∀ d ∈ tables_1, d.before a0 Z = true) : (Jvm.Cond.stringLink "com/example/beanloft/beanloft/naming/GlobalName" (17 : Nat) "application name").before a0 Z = true := hw _ (List.mem_of_getElem? (i := 50) rfl)
theorem wd51 {a0 : Array Value} {Z : State} (hw : ∀ d ∈ tables_1, d.before a0 Z = true) : (Jvm.Cond.methodLink "com/example/beanloft/beanloft/naming/GlobalName" (19 : Nat) ({ cls := "com/example/beanloft/beanloft/naming/GlobalName", name := "checkSegment", desc := "(Ljava/lang/String;Ljava/lang/String;Ljava/lang/String;Ljava/lang/String;)V" } : Jvm.MethodName)).before a0 Z = true := hw _ (List.mem_of_getElem? (i := 51) rfl)
theorem wd52 {a0 : Array Value} {Z : State} (hw : ∀ d ∈ tables_1, d.before a0 Z = true) : (Jvm.Cond.static ({ cls := "com/example/beanloft/beanloft/naming/GlobalName", name := "checkSegment", desc := "(Ljava/lang/String;Ljava/lang/String;Ljava/lang/String;Ljava/lang/String;)V" } : Jvm.MethodName)).before a0 Z = true := hw _ (List.mem_of_getElem? (i := 52) rfl)
theorem wd53 {a0 : Array Value} {Z : State} (hw : ∀ d ∈ tables_1, d.before a0 Z = true) : (Jvm.Cond.code ({ cls := "com/example/beanloft/beanloft/naming/GlobalName", name := "checkSegment", desc := "(Ljava/lang/String;Ljava/lang/String;Ljava/lang/String;Ljava/lang/String;)V" } : Jvm.MethodName) prog_9_method_9_code (4 : Nat) (Option.none : Option Jvm.ClassFile.FieldType)).before a0 Z = true := hw _ (List.mem_of_getElem? (i := 53) rfl)
theorem wd54 {a0 : Array Value} {Z : State} (hw : ∀ d ∈ tables_1, d.before a0 Z = true) : (Jvm.Cond.stringLink "com/example/beanloft/beanloft/naming/GlobalName" (25 : Nat) "module name").before a0 Z = true := hw _ (List.mem_of_getElem? (i := 54) rfl)
theorem wd55 {a0 : Array Value} {Z : State} (hw : ∀ d ∈ tables_1, d.before a0 Z = true) : (Jvm.Cond.methodLink "com/example/beanloft/beanloft/naming/GlobalName" (121 : Nat) ({ cls := "java/lang/String", name := "isEmpty", desc := "()Z" } : Jvm.MethodName)).before a0 Z = true := hw _ (List.mem_of_getElem? (i := 55) rfl)
theorem wd56 {a0 : Array Value} {Z : State} (hw : ∀ d ∈ tables_1, d.before a0 Z = true) : (Jvm.Cond.declares ({ cls := "java/lang/String", name := "isEmpty", desc := "()Z" } : Jvm.MethodName)).before a0 Z = true := hw _ (List.mem_of_getElem? (i := 56) rfl)
theorem wd57 {a0 : Array Value} {Z : State} (hw : ∀ d ∈ tables_1, d.before a0 Z = true) : (Jvm.Cond.instanceMethod ({ cls := "java/lang/String", name := "isEmpty", desc := "()Z" } : Jvm.MethodName)).before a0 Z = true := hw _ (List.mem_of_getElem? (i := 57) rfl)
theorem wd58 {a0 : Array Value} {Z : State} (hw : ∀ d ∈ tables_1, d.before a0 Z = true) : (Jvm.Cond.selects "java/lang/String" ({ cls := "java/lang/String", name := "isEmpty", desc := "()Z" } : Jvm.MethodName) ({ cls := "java/lang/String", name := "isEmpty", desc := "()Z" } : Jvm.MethodName)).before a0 Z = true := hw _ (List.mem_of_getElem? (i := 58) rfl)
theorem wd59 {a0 : Array Value} {Z : State} (hw : ∀ d ∈ tables_1, d.before a0 Z = true) : (Jvm.Cond.code ({ cls := "java/lang/String", name := "isEmpty", desc := "()Z" } : Jvm.MethodName) jdk_42_method_55_code (1 : Nat) (Option.some Jvm.ClassFile.FieldType.boolean)).before a0 Z = true := hw _ (List.mem_of_getElem? (i := 59) rfl)
theorem wd60 {a0 : Array Value} {Z : State} (hw : ∀ d ∈ tables_1, d.before a0 Z = true) : (Jvm.Cond.stringLink "com/example/beanloft/beanloft/naming/GlobalName" (125 : Nat) "/").before a0 Z = true := hw _ (List.mem_of_getElem? (i := 60) rfl)
theorem wd61 {a0 : Array Value} {Z : State} (hw : ∀ d ∈ tables_1, d.before a0 Z = true) : (Jvm.Cond.methodLink "com/example/beanloft/beanloft/naming/GlobalName" (127 : Nat) ({ cls := "java/lang/String", name := "contains", desc := "(Ljava/lang/CharSequence;)Z" } : Jvm.MethodName)).before a0 Z = true := hw _ (List.mem_of_getElem? (i := 61) rfl)
theorem wd62 {a0 : Array Value} {Z : State} (hw : ∀ d ∈ tables_1, d.before a0 Z = true) : (Jvm.Cond.declares ({ cls := "java/lang/String", name := "contains", desc := "(Ljava/lang/CharSequence;)Z" } : Jvm.MethodName)).before a0 Z = true := hw _ (List.mem_of_getElem? (i := 62) rfl)
theorem wd63 {a0 : Array Value} {Z : State} (hw : ∀ d ∈ tables_1, d.before a0 Z = true) : (Jvm.Cond.instanceMethod ({ cls := "java/lang/String", name := "contains", desc := "(Ljava/lang/CharSequence;)Z" } : Jvm.MethodName)).before a0 Z = true := hw _ (List.mem_of_getElem? (i := 63) rfl)
theorem wd64 {a0 : Array Value} {Z : State} (hw : ∀ d ∈ tables_1, d.before a0 Z = true) : (Jvm.Cond.selects "java/lang/String" ({ cls := "java/lang/String", name := "contains", desc := "(Ljava/lang/CharSequence;)Z" } : Jvm.MethodName) ({ cls := "java/lang/String", name := "contains", desc := "(Ljava/lang/CharSequence;)Z" } : Jvm.MethodName)).before a0 Z = true := hw _ (List.mem_of_getElem? (i := 64) rfl)
theorem wd65 {a0 : Array Value} {Z : State} (hw : ∀ d ∈ tables_1, d.before a0 Z = true) : (Jvm.Cond.code ({ cls := "java/lang/String", name := "contains", desc := "(Ljava/lang/CharSequence;)Z" } : Jvm.MethodName) jdk_42_method_97_code (2 : Nat) (Option.some Jvm.ClassFile.FieldType.boolean)).before a0 Z = true := hw _ (List.mem_of_getElem? (i := 65) rfl)
theorem wd66 {a0 : Array Value} {Z : State} (hw : ∀ d ∈ tables_1, d.before a0 Z = true) : (Jvm.Cond.methodLink "java/lang/String" (710 : Nat) ({ cls := "java/lang/CharSequence", name := "toString", desc := "()Ljava/lang/String;" } : Jvm.MethodName)).before a0 Z = true := hw _ (List.mem_of_getElem? (i := 66) rfl)
theorem wd67 {a0 : Array Value} {Z : State} (hw : ∀ d ∈ tables_1, d.before a0 Z = true) : (Jvm.Cond.declares ({ cls := "java/lang/CharSequence", name := "toString", desc := "()Ljava/lang/String;" } : Jvm.MethodName)).before a0 Z = true := hw _ (List.mem_of_getElem? (i := 67) rfl)
theorem wd68 {a0 : Array Value} {Z : State} (hw : ∀ d ∈ tables_1, d.before a0 Z = true) : (Jvm.Cond.interfaceMethod "java/lang/CharSequence" "java/lang/CharSequence" "toString" "()Ljava/lang/String;").before a0 Z = true := hw _ (List.mem_of_getElem? (i := 68) rfl)
theorem wd69 {a0 : Array Value} {Z : State} (hw : ∀ d ∈ tables_1, d.before a0 Z = true) : (Jvm.Cond.selects "java/lang/String" ({ cls := "java/lang/CharSequence", name := "toString", desc := "()Ljava/lang/String;" } : Jvm.MethodName) ({ cls := "java/lang/String", name := "toString", desc := "()Ljava/lang/String;" } : Jvm.MethodName)).before a0 Z = true := hw _ (List.mem_of_getElem? (i := 69) rfl)
theorem wd70 {a0 : Array Value} {Z : State} (hw : ∀ d ∈ tables_1, d.before a0 Z = true) : (Jvm.Cond.instanceMethod ({ cls := "java/lang/String", name := "toString", desc := "()Ljava/lang/String;" } : Jvm.MethodName)).before a0 Z = true := hw _ (List.mem_of_getElem? (i := 70) rfl)
theorem wd71 {a0 : Array Value} {Z : State} (hw : ∀ d ∈ tables_1, d.before a0 Z = true) : (Jvm.Cond.publicMethod ({ cls := "java/lang/String", name := "toString", desc := "()Ljava/lang/String;" } : Jvm.MethodName)).before a0 Z = true := hw _ (List.mem_of_getElem? (i := 71) rfl)
theorem wd72 {a0 : Array Value} {Z : State} (hw : ∀ d ∈ tables_1, d.before a0 Z = true) : (Jvm.Cond.unhidden "java/lang/String" "toString" "()Ljava/lang/String;").before a0 Z = true := hw _ (List.mem_of_getElem? (i := 72) rfl)
theorem wd73 {a0 : Array Value} {Z : State} (hw : ∀ d ∈ tables_1, d.before a0 Z = true) : (Jvm.Cond.castable "java/lang/String" "java/lang/CharSequence").before a0 Z = true := hw _ (List.mem_of_getElem? (i := 73) rfl)
theorem wd74 {a0 : Array Value} {Z : State} (hw : ∀ d ∈ tables_1, d.before a0 Z = true) : (Jvm.Cond.code ({ cls := "java/lang/String", name := "toString", desc := "()Ljava/lang/String;" } : Jvm.MethodName) jdk_42_method_126_code (1 : Nat) (Option.some (Jvm.ClassFile.FieldType.object "java/lang/String"))).before a0 Z = true := hw _ (List.mem_of_getElem? (i := 74) rfl)
theorem wd75 {a0 : Array Value} {Z : State} (hw : ∀ d ∈ tables_1, d.before a0 Z = true) : (Jvm.Cond.methodLink "java/lang/String" (711 : Nat) ({ cls := "java/lang/String", name := "indexOf", desc := "(Ljava/lang/String;)I" } : Jvm.MethodName)).before a0 Z = true := hw _ (List.mem_of_getElem? (i := 75) rfl)
theorem wd76 {a0 : Array Value} {Z : State} (hw : ∀ d ∈ tables_1, d.before a0 Z = true) : (Jvm.Cond.declares ({ cls := "java/lang/String", name := "indexOf", desc := "(Ljava/lang/String;)I" } : Jvm.MethodName)).before a0 Z = true := hw _ (List.mem_of_getElem? (i := 76) rfl)
theorem wd77 {a0 : Array Value} {Z : State} (hw : ∀ d ∈ tables_1, d.before a0 Z = true) : (Jvm.Cond.instanceMethod ({ cls := "java/lang/String", name := "indexOf", desc := "(Ljava/lang/String;)I" } : Jvm.MethodName)).before a0 Z = true := hw _ (List.mem_of_getElem? (i := 77) rfl)
theorem wd78 {a0 : Array Value} {Z : State} (hw : ∀ d ∈ tables_1, d.before a0 Z = true) : (Jvm.Cond.selects "java/lang/String" ({ cls := "java/lang/String", name := "indexOf", desc := "(Ljava/lang/String;)I" } : Jvm.MethodName) ({ cls := "java/lang/String", name := "indexOf", desc := "(Ljava/lang/String;)I" } : Jvm.MethodName)).before a0 Z = true := hw _ (List.mem_of_getElem? (i := 78) rfl)
theorem wd79 {a0 : Array Value} {Z : State} (hw : ∀ d ∈ tables_1, d.before a0 Z = true) : (Jvm.Cond.code ({ cls := "java/lang/String", name := "indexOf", desc := "(Ljava/lang/String;)I" } : Jvm.MethodName) jdk_42_method_84_code (3 : Nat) (Option.some Jvm.ClassFile.FieldType.int)).before a0 Z = true := hw _ (List.mem_of_getElem? (i := 79) rfl)
theorem wd80 {a0 : Array Value} {Z : State} (hw : ∀ d ∈ tables_1, d.before a0 Z = true) : (Jvm.Cond.methodLink "java/lang/String" (335 : Nat) ({ cls := "java/lang/String", name := "coder", desc := "()B" } : Jvm.MethodName)).before a0 Z = true := hw _ (List.mem_of_getElem? (i := 80) rfl)
theorem wd81 {a0 : Array Value} {Z : State} (hw : ∀ d ∈ tables_1, d.before a0 Z = true) : (Jvm.Cond.declares ({ cls := "java/lang/String", name := "coder", desc := "()B" } : Jvm.MethodName)).before a0 Z = true := hw _ (List.mem_of_getElem? (i := 81) rfl)
theorem wd82 {a0 : Array Value} {Z : State} (hw : ∀ d ∈ tables_1, d.before a0 Z = true) : (Jvm.Cond.instanceMethod ({ cls := "java/lang/String", name := "coder", desc := "()B" } : Jvm.MethodName)).before a0 Z = true := hw _ (List.mem_of_getElem? (i := 82) rfl)
theorem wd83 {a0 : Array Value} {Z : State} (hw : ∀ d ∈ tables_1, d.before a0 Z = true) : (Jvm.Cond.selects "java/lang/String" ({ cls := "java/lang/String", name := "coder", desc := "()B" } : Jvm.MethodName) ({ cls := "java/lang/String", name := "coder", desc := "()B" } : Jvm.MethodName)).before a0 Z = true := hw _ (List.mem_of_getElem? (i := 83) rfl)
theorem wd84 {a0 : Array Value} {Z : State} (hw : ∀ d ∈ tables_1, d.before a0 Z = true) : (Jvm.Cond.code ({ cls := "java/lang/String", name := "coder", desc := "()B" } : Jvm.MethodName) jdk_42_method_152_code (1 : Nat) (Option.some Jvm.ClassFile.FieldType.byte)).before a0 Z = true := hw _ (List.mem_of_getElem? (i := 84) rfl)
theorem wd85 {a0 : Array Value} {Z : State} (hw : ∀ d ∈ tables_1, d.before a0 Z = true) : (Jvm.Cond.methodLink "java/lang/String" (492 : Nat) ({ cls := "java/lang/String", name := "isLatin1", desc := "()Z" } : Jvm.MethodName)).before a0 Z = true := hw _ (List.mem_of_getElem? (i := 85) rfl)
theorem wd86 {a0 : Array Value} {Z : State} (hw : ∀ d ∈ tables_1, d.before a0 Z = true) : (Jvm.Cond.declares ({ cls := "java/lang/String", name := "isLatin1", desc := "()Z" } : Jvm.MethodName)).before a0 Z = true := hw _ (List.mem_of_getElem? (i := 86) rfl)
theorem wd87 {a0 : Array Value} {Z : State} (hw : ∀ d ∈ tables_1, d.before a0 Z = true) : (Jvm.Cond.instanceMethod ({ cls := "java/lang/String", name := "isLatin1", desc := "()Z" } : Jvm.MethodName)).before a0 Z = true := hw _ (List.mem_of_getElem? (i := 87) rfl)
theorem wd88 {a0 : Array Value} {Z : State} (hw : ∀ d ∈ tables_1, d.before a0 Z = true) : (Jvm.Cond.selects "java/lang/String" ({ cls := "java/lang/String", name := "isLatin1", desc := "()Z" } : Jvm.MethodName) ({ cls := "java/lang/String", name := "isLatin1", desc := "()Z" } : Jvm.MethodName)).before a0 Z = true := hw _ (List.mem_of_getElem? (i := 88) rfl)
theorem wd89 {a0 : Array Value} {Z : State} (hw : ∀ d ∈ tables_1, d.before a0 Z = true) : (Jvm.Cond.code ({ cls := "java/lang/String", name := "isLatin1", desc := "()Z" } : Jvm.MethodName) jdk_42_method_154_code (1 : Nat) (Option.some Jvm.ClassFile.FieldType.boolean)).before a0 Z = true := hw _ (List.mem_of_getElem? (i := 89) rfl)
theorem wd90 {a0 : Array Value} {Z : State} (hw : ∀ d ∈ tables_1, d.before a0 Z = true) : (Jvm.Cond.methodLink "java/lang/String" (647 : Nat) ({ cls := "java/lang/StringLatin1", name := "indexOf", desc := "([B[B)I" } : Jvm.MethodName)).before a0 Z = true := hw _ (List.mem_of_getElem? (i := 90) rfl)
theorem wd91 {a0 : Array Value} {Z : State} (hw : ∀ d ∈ tables_1, d.before a0 Z = true) : (Jvm.Cond.static ({ cls := "java/lang/StringLatin1", name := "indexOf", desc := "([B[B)I" } : Jvm.MethodName)).before a0 Z = true := hw _ (List.mem_of_getElem? (i := 91) rfl)
theorem wd92 {a0 : Array Value} {Z : State} (hw : ∀ d ∈ tables_1, d.before a0 Z = true) : (Jvm.Cond.code ({ cls := "java/lang/StringLatin1", name := "indexOf", desc := "([B[B)I" } : Jvm.MethodName) jdk_43_method_24_code (2 : Nat) (Option.some Jvm.ClassFile.FieldType.int)).before a0 Z = true := hw _ (List.mem_of_getElem? (i := 92) rfl)
theorem wd93 {a0 : Array Value} {Z : State} (hw : ∀ d ∈ tables_1, d.before a0 Z = true) : (Jvm.Cond.methodLink "java/lang/StringLatin1" (99 : Nat) ({ cls := "java/lang/StringLatin1", name := "indexOf", desc := "([BI[BII)I" } : Jvm.MethodName)).before a0 Z = true := hw _ (List.mem_of_getElem? (i := 93) rfl)
theorem wd94 {a0 : Array Value} {Z : State} (hw : ∀ d ∈ tables_1, d.before a0 Z = true) : (Jvm.Cond.static ({ cls := "java/lang/StringLatin1", name := "indexOf", desc := "([BI[BII)I" } : Jvm.MethodName)).before a0 Z = true := hw _ (List.mem_of_getElem? (i := 94) rfl)
theorem wd95 {a0 : Array Value} {Z : State} (hw : ∀ d ∈ tables_1, d.before a0 Z = true) : (Jvm.Cond.code ({ cls := "java/lang/StringLatin1", name := "indexOf", desc := "([BI[BII)I" } : Jvm.MethodName) jdk_43_method_25_code (11 : Nat) (Option.some Jvm.ClassFile.FieldType.int)).before a0 Z = true := hw _ (List.mem_of_getElem? (i := 95) rfl)
theorem wd96 {a0 : Array Value} {Z : State} (hw : ∀ d ∈ tables_1, d.before a0 Z = true) : (Jvm.Cond.stringLink "com/example/beanloft/beanloft/naming/GlobalName" (131 : Nat) "!").before a0 Z = true := hw _ (List.mem_of_getElem? (i := 96) rfl)
theorem wd97 {a0 : Array Value} {Z : State} (hw : ∀ d ∈ tables_1, d.before a0 Z = true) : (Jvm.Cond.stringLink "com/example/beanloft/beanloft/naming/GlobalName" (27 : Nat) "bean name").before a0 Z = true := hw _ (List.mem_of_getElem? (i := 97) rfl)
theorem wd98 {a0 : Array Value} {Z : State} (hw : ∀ d ∈ tables_1, d.before a0 Z = true) : (Jvm.Cond.stringLink "com/example/beanloft/beanloft/naming/GlobalName" (29 : Nat) "view name").before a0 Z = true := hw _ (List.mem_of_getElem? (i := 98) rfl)
theorem wd99 {a0 : Array Value} {Z : State} (hw : ∀ d ∈ tables_1, d.before a0 Z = true) : (Jvm.Cond.fieldLink "com/example/beanloft/beanloft/naming/GlobalName" (31 : Nat) "com/example/beanloft/beanloft/naming/GlobalName" "appName" "Ljava/lang/String;").before a0 Z = true := hw _ (List.mem_of_getElem? (i := 99) rfl)
theorem wd100 {a0 : Array Value} {Z : State} (hw : ∀ d ∈ tables_1, d.before a0 Z = true) : (Jvm.Cond.laysFinal "com/example/beanloft/beanloft/naming/GlobalName" "com/example/beanloft/beanloft/naming/GlobalName" "appName" "Ljava/lang/String;").before a0 Z = true := hw _ (List.mem_of_getElem? (i := 100) rfl)
theorem wd101 {a0 : Array Value} {Z : State} (hw : ∀ d ∈ tables_1, d.before a0 Z = true) : (Jvm.Cond.fieldLink "com/example/beanloft/beanloft/naming/GlobalName" (35 : Nat) "com/example/beanloft/beanloft/naming/GlobalName" "moduleName" "Ljava/lang/String;").before a0 Z = true := hw _ (List.mem_of_getElem? (i := 101) rfl)
theorem wd102 {a0 : Array Value} {Z : State} (hw : ∀ d ∈ tables_1, d.before a0 Z = true) : (Jvm.Cond.laysFinal "com/example/beanloft/beanloft/naming/GlobalName" "com/example/beanloft/beanloft/naming/GlobalName" "moduleName" "Ljava/lang/String;").before a0 Z = true := hw _ (List.mem_of_getElem? (i := 102) rfl)
theorem wd103 {a0 : Array Value} {Z : State} (hw : ∀ d ∈ tables_1, d.before a0 Z = true) : (Jvm.Cond.fieldLink "com/example/beanloft/beanloft/naming/GlobalName" (37 : Nat) "com/example/beanloft/beanloft/naming/GlobalName" "beanName" "Ljava/lang/String;").before a0 Z = true := hw _ (List.mem_of_getElem? (i := 103) rfl)
theorem wd104 {a0 : Array Value} {Z : State} (hw : ∀ d ∈ tables_1, d.before a0 Z = true) : (Jvm.Cond.laysFinal "com/example/beanloft/beanloft/naming/GlobalName" "com/example/beanloft/beanloft/naming/GlobalName" "beanName" "Ljava/lang/String;").before a0 Z = true := hw _ (List.mem_of_getElem? (i := 104) rfl)
theorem wd105 {a0 : Array Value} {Z : State} (hw : ∀ d ∈ tables_1, d.before a0 Z = true) : (Jvm.Cond.fieldLink "com/example/beanloft/beanloft/naming/GlobalName" (39 : Nat) "com/example/beanloft/beanloft/naming/GlobalName" "viewName" "Ljava/lang/String;").before a0 Z = true := hw _ (List.mem_of_getElem? (i := 105) rfl)
theorem wd106 {a0 : Array Value} {Z : State} (hw : ∀ d ∈ tables_1, d.before a0 Z = true) : (Jvm.Cond.laysFinal "com/example/beanloft/beanloft/naming/GlobalName" "com/example/beanloft/beanloft/naming/GlobalName" "viewName" "Ljava/lang/String;").before a0 Z = true := hw _ (List.mem_of_getElem? (i := 106) rfl)
theorem wd107 {a0 : Array Value} {Z : State} (hw : ∀ d ∈ tables_1, d.before a0 Z = true) : (Jvm.Cond.methodLink "com/example/beanloft/beanloft/naming/GlobalNameFormsPinLaw" (24 : Nat) ({ cls := "com/example/beanloft/beanloft/naming/GlobalName", name := "forms", desc := "(I)Ljava/util/List;" } : Jvm.MethodName)).before a0 Z = true := hw _ (List.mem_of_getElem? (i := 107) rfl)
theorem wd108 {a0 : Array Value} {Z : State} (hw : ∀ d ∈ tables_1, d.before a0 Z = true) : (Jvm.Cond.declares ({ cls := "com/example/beanloft/beanloft/naming/GlobalName", name := "forms", desc := "(I)Ljava/util/List;" } : Jvm.MethodName)).before a0 Z = true := hw _ (List.mem_of_getElem? (i := 108) rfl)
theorem wd109 {a0 : Array Value} {Z : State} (hw : ∀ d ∈ tables_1, d.before a0 Z = true) : (Jvm.Cond.instanceMethod ({ cls := "com/example/beanloft/beanloft/naming/GlobalName", name := "forms", desc := "(I)Ljava/util/List;" } : Jvm.MethodName)).before a0 Z = true := hw _ (List.mem_of_getElem? (i := 109) rfl)
theorem wd110 {a0 : Array Value} {Z : State} (hw : ∀ d ∈ tables_1, d.before a0 Z = true) : (Jvm.Cond.selects "com/example/beanloft/beanloft/naming/GlobalName" ({ cls := "com/example/beanloft/beanloft/naming/GlobalName", name := "forms", desc := "(I)Ljava/util/List;" } : Jvm.MethodName) ({ cls := "com/example/beanloft/beanloft/naming/GlobalName", name := "forms", desc := "(I)Ljava/util/List;" } : Jvm.MethodName)).before a0 Z = true := hw _ (List.mem_of_getElem? (i := 110) rfl)
theorem wd111 {a0 : Array Value} {Z : State} (hw : ∀ d ∈ tables_1, d.before a0 Z = true) : (Jvm.Cond.code ({ cls := "com/example/beanloft/beanloft/naming/GlobalName", name := "forms", desc := "(I)Ljava/util/List;" } : Jvm.MethodName) prog_9_method_4_code (3 : Nat) (Option.some (Jvm.ClassFile.FieldType.object "java/util/List"))).before a0 Z = true := hw _ (List.mem_of_getElem? (i := 111) rfl)
theorem wd112 {a0 : Array Value} {Z : State} (hw : ∀ d ∈ tables_1, d.before a0 Z = true) : (Jvm.Cond.methodLink "com/example/beanloft/beanloft/naming/GlobalName" (93 : Nat) ({ cls := "java/util/List", name := "of", desc := "(Ljava/lang/Object;)Ljava/util/List;" } : Jvm.MethodName)).before a0 Z = true := hw _ (List.mem_of_getElem? (i := 112) rfl)
theorem wd113 {a0 : Array Value} {Z : State} (hw : ∀ d ∈ tables_1, d.before a0 Z = true) : (Jvm.Cond.static ({ cls := "java/util/List", name := "of", desc := "(Ljava/lang/Object;)Ljava/util/List;" } : Jvm.MethodName)).before a0 Z = true := hw _ (List.mem_of_getElem? (i := 113) rfl)
theorem wd114 {a0 : Array Value} {Z : State} (hw : ∀ d ∈ tables_1, d.before a0 Z = true) : (Jvm.Cond.initialized "java/util/List").before a0 Z = true := hw _ (List.mem_of_getElem? (i := 114) rfl)
theorem wd115 {a0 : Array Value} {Z : State} (hw : ∀ d ∈ tables_1, d.before a0 Z = true) : (Jvm.Cond.code ({ cls := "java/util/List", name := "of", desc := "(Ljava/lang/Object;)Ljava/util/List;" } : Jvm.MethodName) jdk_40_method_37_code (1 : Nat) (Option.some (Jvm.ClassFile.FieldType.object "java/util/List"))).before a0 Z = true := hw _ (List.mem_of_getElem? (i := 115) rfl)
theorem wd116 {a0 : Array Value} {Z : State} (hw : ∀ d ∈ tables_1, d.before a0 Z = true) : (Jvm.Cond.classLink "java/util/List" (96 : Nat) "java/util/ImmutableCollections$List12").before a0 Z = true := hw _ (List.mem_of_getElem? (i := 116) rfl)
theorem wd117 {a0 : Array Value} {Z : State} (hw : ∀ d ∈ tables_1, d.before a0 Z = true) : (Jvm.Cond.instantiable "java/util/ImmutableCollections$List12" (2 : Nat)).before a0 Z = true := hw _ (List.mem_of_getElem? (i := 117) rfl)
theorem wd118 {a0 : Array Value} {Z : State} (hw : ∀ d ∈ tables_1, d.before a0 Z = true) : (Jvm.Cond.initialized "java/util/ImmutableCollections$List12").before a0 Z = true := hw _ (List.mem_of_getElem? (i := 118) rfl)
theorem wd119 {a0 : Array Value} {Z : State} (hw : ∀ d ∈ tables_1, d.before a0 Z = true) : (Jvm.Cond.methodLink "java/util/List" (98 : Nat) ({ cls := "java/util/ImmutableCollections$List12", name := "<init>", desc := "(Ljava/lang/Object;)V" } : Jvm.MethodName)).before a0 Z = true := hw _ (List.mem_of_getElem? (i := 119) rfl)
theorem wd120 {a0 : Array Value} {Z : State} (hw : ∀ d ∈ tables_1, d.before a0 Z = true) : (Jvm.Cond.instanceMethod ({ cls := "java/util/ImmutableCollections$List12", name := "<init>", desc := "(Ljava/lang/Object;)V" } : Jvm.MethodName)).before a0 Z = true := hw _ (List.mem_of_getElem? (i := 120) rfl)
theorem wd122 {a0 : Array Value} {Z : State} (hw : ∀ d ∈ tables_1, d.before a0 Z = true) : (Jvm.Cond.code ({ cls := "java/util/ImmutableCollections$List12", name := "<init>", desc := "(Ljava/lang/Object;)V" } : Jvm.MethodName) jdk_44_method_1_code (2 : Nat) (Option.none : Option Jvm.ClassFile.FieldType)).before a0 Z = true := hw _ (List.mem_of_getElem? (i := 122) rfl)
theorem wd123 {a0 : Array Value} {Z : State} (hw : ∀ d ∈ tables_1, d.before a0 Z = true) : (Jvm.Cond.methodLink "java/util/ImmutableCollections$List12" (1 : Nat) ({ cls := "java/util/ImmutableCollections$AbstractImmutableList", name := "<init>", desc := "()V" } : Jvm.MethodName)).before a0 Z = true := hw _ (List.mem_of_getElem? (i := 123) rfl)
theorem wd124 {a0 : Array Value} {Z : State} (hw : ∀ d ∈ tables_1, d.before a0 Z = true) : (Jvm.Cond.instanceMethod ({ cls := "java/util/ImmutableCollections$AbstractImmutableList", name := "<init>", desc := "()V" } : Jvm.MethodName)).before a0 Z = true := hw _ (List.mem_of_getElem? (i := 124) rfl)
theorem wd127 {a0 : Array Value} {Z : State} (hw : ∀ d ∈ tables_1, d.before a0 Z = true) : (Jvm.Cond.initialized "java/util/ImmutableCollections$AbstractImmutableList").before a0 Z = true := hw _ (List.mem_of_getElem? (i := 127) rfl)
theorem wd128 {a0 : Array Value} {Z : State} (hw : ∀ d ∈ tables_1, d.before a0 Z = true) : (Jvm.Cond.code ({ cls := "java/util/ImmutableCollections$AbstractImmutableList", name := "<init>", desc := "()V" } : Jvm.MethodName) jdk_46_method_1_code (1 : Nat) (Option.none : Option Jvm.ClassFile.FieldType)).before a0 Z = true := hw _ (List.mem_of_getElem? (i := 128) rfl)
theorem wd129 {a0 : Array Value} {Z : State} (hw : ∀ d ∈ tables_1, d.before a0 Z = true) : (Jvm.Cond.methodLink "java/util/ImmutableCollections$AbstractImmutableList" (1 : Nat) ({ cls := "java/util/ImmutableCollections$AbstractImmutableCollection", name := "<init>", desc := "()V" } : Jvm.MethodName)).before a0 Z = true := hw _ (List.mem_of_getElem? (i := 129) rfl)
theorem wd130 {a0 : Array Value} {Z : State} (hw : ∀ d ∈ tables_1, d.before a0 Z = true) : (Jvm.Cond.instanceMethod ({ cls := "java/util/ImmutableCollections$AbstractImmutableCollection", name := "<init>", desc := "()V" } : Jvm.MethodName)).before a0 Z = true := hw _ (List.mem_of_getElem? (i := 130) rfl)
theorem wd133 {a0 : Array Value} {Z : State} (hw : ∀ d ∈ tables_1, d.before a0 Z = true) : (Jvm.Cond.initialized "java/util/ImmutableCollections$AbstractImmutableCollection").before a0 Z = true := hw _ (List.mem_of_getElem? (i := 133) rfl)
theorem wd134 {a0 : Array Value} {Z : State} (hw : ∀ d ∈ tables_1, d.before a0 Z = true) : (Jvm.Cond.code ({ cls := "java/util/ImmutableCollections$AbstractImmutableCollection", name := "<init>", desc := "()V" } : Jvm.MethodName) jdk_47_method_1_code (1 : Nat) (Option.none : Option Jvm.ClassFile.FieldType)).before a0 Z = true := hw _ (List.mem_of_getElem? (i := 134) rfl)
theorem wd135 {a0 : Array Value} {Z : State} (hw : ∀ d ∈ tables_1, d.before a0 Z = true) : (Jvm.Cond.methodLink "java/util/ImmutableCollections$AbstractImmutableCollection" (1 : Nat) ({ cls := "java/util/AbstractCollection", name := "<init>", desc := "()V" } : Jvm.MethodName)).before a0 Z = true := hw _ (List.mem_of_getElem? (i := 135) rfl)
theorem wd136 {a0 : Array Value} {Z : State} (hw : ∀ d ∈ tables_1, d.before a0 Z = true) : (Jvm.Cond.instanceMethod ({ cls := "java/util/AbstractCollection", name := "<init>", desc := "()V" } : Jvm.MethodName)).before a0 Z = true := hw _ (List.mem_of_getElem? (i := 136) rfl)
theorem wd139 {a0 : Array Value} {Z : State} (hw : ∀ d ∈ tables_1, d.before a0 Z = true) : (Jvm.Cond.initialized "java/util/AbstractCollection").before a0 Z = true := hw _ (List.mem_of_getElem? (i := 139) rfl)
theorem wd140 {a0 : Array Value} {Z : State} (hw : ∀ d ∈ tables_1, d.before a0 Z = true) : (Jvm.Cond.code ({ cls := "java/util/AbstractCollection", name := "<init>", desc := "()V" } : Jvm.MethodName) jdk_22_method_1_code (1 : Nat) (Option.none : Option Jvm.ClassFile.FieldType)).before a0 Z = true := hw _ (List.mem_of_getElem? (i := 140) rfl)
theorem wd141 {a0 : Array Value} {Z : State} (hw : ∀ d ∈ tables_1, d.before a0 Z = true) : (Jvm.Cond.methodLink "java/util/AbstractCollection" (1 : Nat) ({ cls := "java/lang/Object", name := "<init>", desc := "()V" } : Jvm.MethodName)).before a0 Z = true := hw _ (List.mem_of_getElem? (i := 141) rfl)
theorem wd142 {a0 : Array Value} {Z : State} (hw : ∀ d ∈ tables_1, d.before a0 Z = true) : (Jvm.Cond.methodLink "java/util/ImmutableCollections$List12" (7 : Nat) ({ cls := "java/util/Objects", name := "requireNonNull", desc := "(Ljava/lang/Object;)Ljava/lang/Object;" } : Jvm.MethodName)).before a0 Z = true := hw _ (List.mem_of_getElem? (i := 142) rfl)
theorem wd143 {a0 : Array Value} {Z : State} (hw : ∀ d ∈ tables_1, d.before a0 Z = true) : (Jvm.Cond.static ({ cls := "java/util/Objects", name := "requireNonNull", desc := "(Ljava/lang/Object;)Ljava/lang/Object;" } : Jvm.MethodName)).before a0 Z = true := hw _ (List.mem_of_getElem? (i := 143) rfl)
theorem wd144 {a0 : Array Value} {Z : State} (hw : ∀ d ∈ tables_1, d.before a0 Z = true) : (Jvm.Cond.code ({ cls := "java/util/Objects", name := "requireNonNull", desc := "(Ljava/lang/Object;)Ljava/lang/Object;" } : Jvm.MethodName) jdk_31_method_10_code (1 : Nat) (Option.some (Jvm.ClassFile.FieldType.object "java/lang/Object"))).before a0 Z = true := hw _ (List.mem_of_getElem? (i := 144) rfl)
theorem wd145 {a0 : Array Value} {Z : State} (hw : ∀ d ∈ tables_1, d.before a0 Z = true) : (Jvm.Cond.fieldLink "java/util/ImmutableCollections$List12" (13 : Nat) "java/util/ImmutableCollections$List12" "e0" "Ljava/lang/Object;").before a0 Z = true := hw _ (List.mem_of_getElem? (i := 145) rfl)
theorem wd146 {a0 : Array Value} {Z : State} (hw : ∀ d ∈ tables_1, d.before a0 Z = true) : (Jvm.Cond.laysFinal "java/util/ImmutableCollections$List12" "java/util/ImmutableCollections$List12" "e0" "Ljava/lang/Object;").before a0 Z = true := hw _ (List.mem_of_getElem? (i := 146) rfl)
theorem wd147 {a0 : Array Value} {Z : State} (hw : ∀ d ∈ tables_1, d.before a0 Z = true) : (Jvm.Cond.fieldLinkNest "java/util/ImmutableCollections$List12" (19 : Nat) "java/util/ImmutableCollections" "EMPTY" "Ljava/lang/Object;" "java/util/ImmutableCollections").before a0 Z = true := hw _ (List.mem_of_getElem? (i := 147) rfl)
theorem wd149 {a0 : Array Value} {Z : State} (hw : ∀ d ∈ tables_1, d.before a0 Z = true) : (Jvm.Cond.fieldLink "java/util/ImmutableCollections$List12" (24 : Nat) "java/util/ImmutableCollections$List12" "e1" "Ljava/lang/Object;").before a0 Z = true := hw _ (List.mem_of_getElem? (i := 149) rfl)
theorem wd150 {a0 : Array Value} {Z : State} (hw : ∀ d ∈ tables_1, d.before a0 Z = true) : (Jvm.Cond.laysFinal "java/util/ImmutableCollections$List12" "java/util/ImmutableCollections$List12" "e1" "Ljava/lang/Object;").before a0 Z = true := hw _ (List.mem_of_getElem? (i := 150) rfl)
theorem wd151 {a0 : Array Value} {Z : State} (hw : ∀ d ∈ tables_1, d.before a0 Z = true) : (Jvm.Cond.methodLink "com/example/beanloft/beanloft/naming/GlobalNameFormsPinLaw" (28 : Nat) ({ cls := "java/util/List", name := "size", desc := "()I" } : Jvm.MethodName)).before a0 Z = true := hw _ (List.mem_of_getElem? (i := 151) rfl)
theorem wd152 {a0 : Array Value} {Z : State} (hw : ∀ d ∈ tables_1, d.before a0 Z = true) : (Jvm.Cond.declares ({ cls := "java/util/List", name := "size", desc := "()I" } : Jvm.MethodName)).before a0 Z = true := hw _ (List.mem_of_getElem? (i := 152) rfl)
theorem wd153 {a0 : Array Value} {Z : State} (hw : ∀ d ∈ tables_1, d.before a0 Z = true) : (Jvm.Cond.interfaceMethod "java/util/List" "java/util/List" "size" "()I").before a0 Z = true := hw _ (List.mem_of_getElem? (i := 153) rfl)
theorem wd154 {a0 : Array Value} {Z : State} (hw : ∀ d ∈ tables_1, d.before a0 Z = true) : (Jvm.Cond.selects "java/util/ImmutableCollections$List12" ({ cls := "java/util/List", name := "size", desc := "()I" } : Jvm.MethodName) ({ cls := "java/util/ImmutableCollections$List12", name := "size", desc := "()I" } : Jvm.MethodName)).before a0 Z = true := hw _ (List.mem_of_getElem? (i := 154) rfl)
theorem wd155 {a0 : Array Value} {Z : State} (hw : ∀ d ∈ tables_1, d.before a0 Z = true) : (Jvm.Cond.instanceMethod ({ cls := "java/util/ImmutableCollections$List12", name := "size", desc := "()I" } : Jvm.MethodName)).before a0 Z = true := hw _ (List.mem_of_getElem? (i := 155) rfl)
theorem wd156 {a0 : Array Value} {Z : State} (hw : ∀ d ∈ tables_1, d.before a0 Z = true) : (Jvm.Cond.publicMethod ({ cls := "java/util/ImmutableCollections$List12", name := "size", desc := "()I" } : Jvm.MethodName)).before a0 Z = true := hw _ (List.mem_of_getElem? (i := 156) rfl)
theorem wd157 {a0 : Array Value} {Z : State} (hw : ∀ d ∈ tables_1, d.before a0 Z = true) : (Jvm.Cond.unhidden "java/util/ImmutableCollections$List12" "size" "()I").before a0 Z = true := hw _ (List.mem_of_getElem? (i := 157) rfl)
theorem wd158 {a0 : Array Value} {Z : State} (hw : ∀ d ∈ tables_1, d.before a0 Z = true) : (Jvm.Cond.castable "java/util/ImmutableCollections$List12" "java/util/List").before a0 Z = true := hw _ (List.mem_of_getElem? (i := 158) rfl)
theorem wd159 {a0 : Array Value} {Z : State} (hw : ∀ d ∈ tables_1, d.before a0 Z = true) : (Jvm.Cond.code ({ cls := "java/util/ImmutableCollections$List12", name := "size", desc := "()I" } : Jvm.MethodName) jdk_44_method_3_code (1 : Nat) (Option.some Jvm.ClassFile.FieldType.int)).before a0 Z = true := hw _ (List.mem_of_getElem? (i := 159) rfl)
theorem wd160 {a0 : Array Value} {Z : State} (hw : ∀ d ∈ tables_1, d.before a0 Z = true) : (Jvm.Cond.methodLink "com/example/beanloft/beanloft/naming/GlobalNameFormsPinLaw" (34 : Nat) ({ cls := "java/util/List", name := "get", desc := "(I)Ljava/lang/Object;" } : Jvm.MethodName)).before a0 Z = true := hw _ (List.mem_of_getElem? (i := 160) rfl)
theorem wd161 {a0 : Array Value} {Z : State} (hw : ∀ d ∈ tables_1, d.before a0 Z = true) : (Jvm.Cond.declares ({ cls := "java/util/List", name := "get", desc := "(I)Ljava/lang/Object;" } : Jvm.MethodName)).before a0 Z = true := hw _ (List.mem_of_getElem? (i := 161) rfl)
theorem wd162 {a0 : Array Value} {Z : State} (hw : ∀ d ∈ tables_1, d.before a0 Z = true) : (Jvm.Cond.interfaceMethod "java/util/List" "java/util/List" "get" "(I)Ljava/lang/Object;").before a0 Z = true := hw _ (List.mem_of_getElem? (i := 162) rfl)
theorem wd163 {a0 : Array Value} {Z : State} (hw : ∀ d ∈ tables_1, d.before a0 Z = true) : (Jvm.Cond.selects "java/util/ImmutableCollections$List12" ({ cls := "java/util/List", name := "get", desc := "(I)Ljava/lang/Object;" } : Jvm.MethodName) ({ cls := "java/util/ImmutableCollections$List12", name := "get", desc := "(I)Ljava/lang/Object;" } : Jvm.MethodName)).before a0 Z = true := hw _ (List.mem_of_getElem? (i := 163) rfl)
theorem wd164 {a0 : Array Value} {Z : State} (hw : ∀ d ∈ tables_1, d.before a0 Z = true) : (Jvm.Cond.instanceMethod ({ cls := "java/util/ImmutableCollections$List12", name := "get", desc := "(I)Ljava/lang/Object;" } : Jvm.MethodName)).before a0 Z = true := hw _ (List.mem_of_getElem? (i := 164) rfl)
theorem wd165 {a0 : Array Value} {Z : State} (hw : ∀ d ∈ tables_1, d.before a0 Z = true) : (Jvm.Cond.publicMethod ({ cls := "java/util/ImmutableCollections$List12", name := "get", desc := "(I)Ljava/lang/Object;" } : Jvm.MethodName)).before a0 Z = true := hw _ (List.mem_of_getElem? (i := 165) rfl)
theorem wd166 {a0 : Array Value} {Z : State} (hw : ∀ d ∈ tables_1, d.before a0 Z = true) : (Jvm.Cond.unhidden "java/util/ImmutableCollections$List12" "get" "(I)Ljava/lang/Object;").before a0 Z = true := hw _ (List.mem_of_getElem? (i := 166) rfl)
theorem wd167 {a0 : Array Value} {Z : State} (hw : ∀ d ∈ tables_1, d.before a0 Z = true) : (Jvm.Cond.code ({ cls := "java/util/ImmutableCollections$List12", name := "get", desc := "(I)Ljava/lang/Object;" } : Jvm.MethodName) jdk_44_method_5_code (2 : Nat) (Option.some (Jvm.ClassFile.FieldType.object "java/lang/Object"))).before a0 Z = true := hw _ (List.mem_of_getElem? (i := 167) rfl)
theorem wd169 {a0 : Array Value} {Z : State} (hw : ∀ d ∈ tables_1, d.before a0 Z = true) : (Jvm.Cond.methodLink "com/example/beanloft/beanloft/naming/GlobalNameFormsPinLaw" (38 : Nat) ({ cls := "com/example/beanloft/beanloft/naming/GlobalNameFormsPinLaw", name := "same", desc := "(Lcom/example/beanloft/beanloft/naming/GlobalName;Ljava/lang/String;Ljava/lang/String;Ljava/lang/String;Ljava/lang/String;)Z" } : Jvm.MethodName)).before a0 Z = true := hw _ (List.mem_of_getElem? (i := 169) rfl)
theorem wd170 {a0 : Array Value} {Z : State} (hw : ∀ d ∈ tables_1, d.before a0 Z = true) : (Jvm.Cond.static ({ cls := "com/example/beanloft/beanloft/naming/GlobalNameFormsPinLaw", name := "same", desc := "(Lcom/example/beanloft/beanloft/naming/GlobalName;Ljava/lang/String;Ljava/lang/String;Ljava/lang/String;Ljava/lang/String;)Z" } : Jvm.MethodName)).before a0 Z = true := hw _ (List.mem_of_getElem? (i := 170) rfl)
theorem wd171 {a0 : Array Value} {Z : State} (hw : ∀ d ∈ tables_1, d.before a0 Z = true) : (Jvm.Cond.code ({ cls := "com/example/beanloft/beanloft/naming/GlobalNameFormsPinLaw", name := "same", desc := "(Lcom/example/beanloft/beanloft/naming/GlobalName;Ljava/lang/String;Ljava/lang/String;Ljava/lang/String;Ljava/lang/String;)Z" } : Jvm.MethodName) method_5_code (5 : Nat) (Option.some Jvm.ClassFile.FieldType.boolean)).before a0 Z = true := hw _ (List.mem_of_getElem? (i := 171) rfl)
theorem wd172 {a0 : Array Value} {Z : State} (hw : ∀ d ∈ tables_1, d.before a0 Z = true) : (Jvm.Cond.methodLink "com/example/beanloft/beanloft/naming/GlobalNameFormsPinLaw" (46 : Nat) ({ cls := "com/example/beanloft/beanloft/naming/GlobalName", name := "appName", desc := "()Ljava/lang/String;" } : Jvm.MethodName)).before a0 Z = true := hw _ (List.mem_of_getElem? (i := 172) rfl)
theorem wd173 {a0 : Array Value} {Z : State} (hw : ∀ d ∈ tables_1, d.before a0 Z = true) : (Jvm.Cond.declares ({ cls := "com/example/beanloft/beanloft/naming/GlobalName", name := "appName", desc := "()Ljava/lang/String;" } : Jvm.MethodName)).before a0 Z = true := hw _ (List.mem_of_getElem? (i := 173) rfl)
theorem wd174 {a0 : Array Value} {Z : State} (hw : ∀ d ∈ tables_1, d.before a0 Z = true) : (Jvm.Cond.instanceMethod ({ cls := "com/example/beanloft/beanloft/naming/GlobalName", name := "appName", desc := "()Ljava/lang/String;" } : Jvm.MethodName)).before a0 Z = true := hw _ (List.mem_of_getElem? (i := 174) rfl)
theorem wd175 {a0 : Array Value} {Z : State} (hw : ∀ d ∈ tables_1, d.before a0 Z = true) : (Jvm.Cond.selects "com/example/beanloft/beanloft/naming/GlobalName" ({ cls := "com/example/beanloft/beanloft/naming/GlobalName", name := "appName", desc := "()Ljava/lang/String;" } : Jvm.MethodName) ({ cls := "com/example/beanloft/beanloft/naming/GlobalName", name := "appName", desc := "()Ljava/lang/String;" } : Jvm.MethodName)).before a0 Z = true := hw _ (List.mem_of_getElem? (i := 175) rfl)
theorem wd176 {a0 : Array Value} {Z : State} (hw : ∀ d ∈ tables_1, d.before a0 Z = true) : (Jvm.Cond.code ({ cls := "com/example/beanloft/beanloft/naming/GlobalName", name := "appName", desc := "()Ljava/lang/String;" } : Jvm.MethodName) prog_9_method_12_code (1 : Nat) (Option.some (Jvm.ClassFile.FieldType.object "java/lang/String"))).before a0 Z = true := hw _ (List.mem_of_getElem? (i := 176) rfl)
theorem wd177 {a0 : Array Value} {Z : State} (hw : ∀ d ∈ tables_1, d.before a0 Z = true) : (Jvm.Cond.methodLink "com/example/beanloft/beanloft/naming/GlobalNameFormsPinLaw" (50 : Nat) ({ cls := "com/example/beanloft/beanloft/naming/GlobalNameFormsPinLaw", name := "eq", desc := "(Ljava/lang/String;Ljava/lang/String;)Z" } : Jvm.MethodName)).before a0 Z = true := hw _ (List.mem_of_getElem? (i := 177) rfl)
theorem wd178 {a0 : Array Value} {Z : State} (hw : ∀ d ∈ tables_1, d.before a0 Z = true) : (Jvm.Cond.static ({ cls := "com/example/beanloft/beanloft/naming/GlobalNameFormsPinLaw", name := "eq", desc := "(Ljava/lang/String;Ljava/lang/String;)Z" } : Jvm.MethodName)).before a0 Z = true := hw _ (List.mem_of_getElem? (i := 178) rfl)
theorem wd179 {a0 : Array Value} {Z : State} (hw : ∀ d ∈ tables_1, d.before a0 Z = true) : (Jvm.Cond.code ({ cls := "com/example/beanloft/beanloft/naming/GlobalNameFormsPinLaw", name := "eq", desc := "(Ljava/lang/String;Ljava/lang/String;)Z" } : Jvm.MethodName) method_4_code (2 : Nat) (Option.some Jvm.ClassFile.FieldType.boolean)).before a0 Z = true := hw _ (List.mem_of_getElem? (i := 179) rfl)
theorem wd180 {a0 : Array Value} {Z : State} (hw : ∀ d ∈ tables_1, d.before a0 Z = true) : (Jvm.Cond.methodLink "com/example/beanloft/beanloft/naming/GlobalNameFormsPinLaw" (54 : Nat) ({ cls := "com/example/beanloft/beanloft/naming/GlobalName", name := "moduleName", desc := "()Ljava/lang/String;" } : Jvm.MethodName)).before a0 Z = true := hw _ (List.mem_of_getElem? (i := 180) rfl)
theorem wd181 {a0 : Array Value} {Z : State} (hw : ∀ d ∈ tables_1, d.before a0 Z = true) : (Jvm.Cond.declares ({ cls := "com/example/beanloft/beanloft/naming/GlobalName", name := "moduleName", desc := "()Ljava/lang/String;" } : Jvm.MethodName)).before a0 Z = true := hw _ (List.mem_of_getElem? (i := 181) rfl)
theorem wd182 {a0 : Array Value} {Z : State} (hw : ∀ d ∈ tables_1, d.before a0 Z = true) : (Jvm.Cond.instanceMethod ({ cls := "com/example/beanloft/beanloft/naming/GlobalName", name := "moduleName", desc := "()Ljava/lang/String;" } : Jvm.MethodName)).before a0 Z = true := hw _ (List.mem_of_getElem? (i := 182) rfl)
theorem wd183 {a0 : Array Value} {Z : State} (hw : ∀ d ∈ tables_1, d.before a0 Z = true) : (Jvm.Cond.selects "com/example/beanloft/beanloft/naming/GlobalName" ({ cls := "com/example/beanloft/beanloft/naming/GlobalName", name := "moduleName", desc := "()Ljava/lang/String;" } : Jvm.MethodName) ({ cls := "com/example/beanloft/beanloft/naming/GlobalName", name := "moduleName", desc := "()Ljava/lang/String;" } : Jvm.MethodName)).before a0 Z = true := hw _ (List.mem_of_getElem? (i := 183) rfl)
theorem wd184 {a0 : Array Value} {Z : State} (hw : ∀ d ∈ tables_1, d.before a0 Z = true) : (Jvm.Cond.code ({ cls := "com/example/beanloft/beanloft/naming/GlobalName", name := "moduleName", desc := "()Ljava/lang/String;" } : Jvm.MethodName) prog_9_method_13_code (1 : Nat) (Option.some (Jvm.ClassFile.FieldType.object "java/lang/String"))).before a0 Z = true := hw _ (List.mem_of_getElem? (i := 184) rfl)
theorem wd185 {a0 : Array Value} {Z : State} (hw : ∀ d ∈ tables_1, d.before a0 Z = true) : (Jvm.Cond.methodLink "com/example/beanloft/beanloft/naming/GlobalNameFormsPinLaw" (42 : Nat) ({ cls := "java/lang/String", name := "equals", desc := "(Ljava/lang/Object;)Z" } : Jvm.MethodName)).before a0 Z = true := hw _ (List.mem_of_getElem? (i := 185) rfl)
theorem wd186 {a0 : Array Value} {Z : State} (hw : ∀ d ∈ tables_1, d.before a0 Z = true) : (Jvm.Cond.declares ({ cls := "java/lang/String", name := "equals", desc := "(Ljava/lang/Object;)Z" } : Jvm.MethodName)).before a0 Z = true := hw _ (List.mem_of_getElem? (i := 186) rfl)
theorem wd187 {a0 : Array Value} {Z : State} (hw : ∀ d ∈ tables_1, d.before a0 Z = true) : (Jvm.Cond.instanceMethod ({ cls := "java/lang/String", name := "equals", desc := "(Ljava/lang/Object;)Z" } : Jvm.MethodName)).before a0 Z = true := hw _ (List.mem_of_getElem? (i := 187) rfl)
theorem wd188 {a0 : Array Value} {Z : State} (hw : ∀ d ∈ tables_1, d.before a0 Z = true) : (Jvm.Cond.selects "java/lang/String" ({ cls := "java/lang/String", name := "equals", desc := "(Ljava/lang/Object;)Z" } : Jvm.MethodName) ({ cls := "java/lang/String", name := "equals", desc := "(Ljava/lang/Object;)Z" } : Jvm.MethodName)).before a0 Z = true := hw _ (List.mem_of_getElem? (i := 188) rfl)
theorem wd189 {a0 : Array Value} {Z : State} (hw : ∀ d ∈ tables_1, d.before a0 Z = true) : (Jvm.Cond.code ({ cls := "java/lang/String", name := "equals", desc := "(Ljava/lang/Object;)Z" } : Jvm.MethodName) jdk_42_method_66_code (3 : Nat) (Option.some Jvm.ClassFile.FieldType.boolean)).before a0 Z = true := hw _ (List.mem_of_getElem? (i := 189) rfl)
theorem wd190 {a0 : Array Value} {Z : State} (hw : ∀ d ∈ tables_1, d.before a0 Z = true) : (Jvm.Cond.methodLink "com/example/beanloft/beanloft/naming/GlobalNameFormsPinLaw" (57 : Nat) ({ cls := "com/example/beanloft/beanloft/naming/GlobalName", name := "beanName", desc := "()Ljava/lang/String;" } : Jvm.MethodName)).before a0 Z = true := hw _ (List.mem_of_getElem? (i := 190) rfl)
theorem wd191 {a0 : Array Value} {Z : State} (hw : ∀ d ∈ tables_1, d.before a0 Z = true) : (Jvm.Cond.declares ({ cls := "com/example/beanloft/beanloft/naming/GlobalName", name := "beanName", desc := "()Ljava/lang/String;" } : Jvm.MethodName)).before a0 Z = true := hw _ (List.mem_of_getElem? (i := 191) rfl)
theorem wd192 {a0 : Array Value} {Z : State} (hw : ∀ d ∈ tables_1, d.before a0 Z = true) : (Jvm.Cond.instanceMethod ({ cls := "com/example/beanloft/beanloft/naming/GlobalName", name := "beanName", desc := "()Ljava/lang/String;" } : Jvm.MethodName)).before a0 Z = true := hw _ (List.mem_of_getElem? (i := 192) rfl)
theorem wd193 {a0 : Array Value} {Z : State} (hw : ∀ d ∈ tables_1, d.before a0 Z = true) : (Jvm.Cond.selects "com/example/beanloft/beanloft/naming/GlobalName" ({ cls := "com/example/beanloft/beanloft/naming/GlobalName", name := "beanName", desc := "()Ljava/lang/String;" } : Jvm.MethodName) ({ cls := "com/example/beanloft/beanloft/naming/GlobalName", name := "beanName", desc := "()Ljava/lang/String;" } : Jvm.MethodName)).before a0 Z = true := hw _ (List.mem_of_getElem? (i := 193) rfl)
theorem wd194 {a0 : Array Value} {Z : State} (hw : ∀ d ∈ tables_1, d.before a0 Z = true) : (Jvm.Cond.code ({ cls := "com/example/beanloft/beanloft/naming/GlobalName", name := "beanName", desc := "()Ljava/lang/String;" } : Jvm.MethodName) prog_9_method_14_code (1 : Nat) (Option.some (Jvm.ClassFile.FieldType.object "java/lang/String"))).before a0 Z = true := hw _ (List.mem_of_getElem? (i := 194) rfl)
theorem wd195 {a0 : Array Value} {Z : State} (hw : ∀ d ∈ tables_1, d.before a0 Z = true) : (Jvm.Cond.methodLink "com/example/beanloft/beanloft/naming/GlobalNameFormsPinLaw" (60 : Nat) ({ cls := "com/example/beanloft/beanloft/naming/GlobalName", name := "viewName", desc := "()Ljava/lang/String;" } : Jvm.MethodName)).before a0 Z = true := hw _ (List.mem_of_getElem? (i := 195) rfl)
theorem wd196 {a0 : Array Value} {Z : State} (hw : ∀ d ∈ tables_1, d.before a0 Z = true) : (Jvm.Cond.declares ({ cls := "com/example/beanloft/beanloft/naming/GlobalName", name := "viewName", desc := "()Ljava/lang/String;" } : Jvm.MethodName)).before a0 Z = true := hw _ (List.mem_of_getElem? (i := 196) rfl)
theorem wd197 {a0 : Array Value} {Z : State} (hw : ∀ d ∈ tables_1, d.before a0 Z = true) : (Jvm.Cond.instanceMethod ({ cls := "com/example/beanloft/beanloft/naming/GlobalName", name := "viewName", desc := "()Ljava/lang/String;" } : Jvm.MethodName)).before a0 Z = true := hw _ (List.mem_of_getElem? (i := 197) rfl)
theorem wd198 {a0 : Array Value} {Z : State} (hw : ∀ d ∈ tables_1, d.before a0 Z = true) : (Jvm.Cond.selects "com/example/beanloft/beanloft/naming/GlobalName" ({ cls := "com/example/beanloft/beanloft/naming/GlobalName", name := "viewName", desc := "()Ljava/lang/String;" } : Jvm.MethodName) ({ cls := "com/example/beanloft/beanloft/naming/GlobalName", name := "viewName", desc := "()Ljava/lang/String;" } : Jvm.MethodName)).before a0 Z = true := hw _ (List.mem_of_getElem? (i := 198) rfl)
theorem wd199 {a0 : Array Value} {Z : State} (hw : ∀ d ∈ tables_1, d.before a0 Z = true) : (Jvm.Cond.code ({ cls := "com/example/beanloft/beanloft/naming/GlobalName", name := "viewName", desc := "()Ljava/lang/String;" } : Jvm.MethodName) prog_9_method_15_code (1 : Nat) (Option.some (Jvm.ClassFile.FieldType.object "java/lang/String"))).before a0 Z = true := hw _ (List.mem_of_getElem? (i := 199) rfl)
theorem wd200 {a0 : Array Value} {Z : State} (hw : ∀ d ∈ tables_1, d.before a0 Z = true) : (Jvm.Cond.classLink "com/example/beanloft/beanloft/naming/GlobalName" (20 : Nat) "com/example/beanloft/beanloft/naming/GlobalName").before a0 Z = true := hw _ (List.mem_of_getElem? (i := 200) rfl)
theorem wd201 {a0 : Array Value} {Z : State} (hw : ∀ d ∈ tables_1, d.before a0 Z = true) : (Jvm.Cond.methodLink "com/example/beanloft/beanloft/naming/GlobalName" (85 : Nat) ({ cls := "com/example/beanloft/beanloft/naming/GlobalName", name := "<init>", desc := "(Ljava/lang/String;Ljava/lang/String;Ljava/lang/String;Ljava/lang/String;)V" } : Jvm.MethodName)).before a0 Z = true := hw _ (List.mem_of_getElem? (i := 201) rfl)
theorem wd202 {a0 : Array Value} {Z : State} (hw : ∀ d ∈ tables_1, d.before a0 Z = true) : (Jvm.Cond.methodLink "com/example/beanloft/beanloft/naming/GlobalName" (87 : Nat) ({ cls := "java/util/List", name := "of", desc := "(Ljava/lang/Object;Ljava/lang/Object;)Ljava/util/List;" } : Jvm.MethodName)).before a0 Z = true := hw _ (List.mem_of_getElem? (i := 202) rfl)
theorem wd203 {a0 : Array Value} {Z : State} (hw : ∀ d ∈ tables_1, d.before a0 Z = true) : (Jvm.Cond.static ({ cls := "java/util/List", name := "of", desc := "(Ljava/lang/Object;Ljava/lang/Object;)Ljava/util/List;" } : Jvm.MethodName)).before a0 Z = true := hw _ (List.mem_of_getElem? (i := 203) rfl)
theorem wd204 {a0 : Array Value} {Z : State} (hw : ∀ d ∈ tables_1, d.before a0 Z = true) : (Jvm.Cond.code ({ cls := "java/util/List", name := "of", desc := "(Ljava/lang/Object;Ljava/lang/Object;)Ljava/util/List;" } : Jvm.MethodName) jdk_40_method_38_code (2 : Nat) (Option.some (Jvm.ClassFile.FieldType.object "java/util/List"))).before a0 Z = true := hw _ (List.mem_of_getElem? (i := 204) rfl)
theorem wd205 {a0 : Array Value} {Z : State} (hw : ∀ d ∈ tables_1, d.before a0 Z = true) : (Jvm.Cond.methodLink "java/util/List" (100 : Nat) ({ cls := "java/util/ImmutableCollections$List12", name := "<init>", desc := "(Ljava/lang/Object;Ljava/lang/Object;)V" } : Jvm.MethodName)).before a0 Z = true := hw _ (List.mem_of_getElem? (i := 205) rfl)
theorem wd206 {a0 : Array Value} {Z : State} (hw : ∀ d ∈ tables_1, d.before a0 Z = true) : (Jvm.Cond.instanceMethod ({ cls := "java/util/ImmutableCollections$List12", name := "<init>", desc := "(Ljava/lang/Object;Ljava/lang/Object;)V" } : Jvm.MethodName)).before a0 Z = true := hw _ (List.mem_of_getElem? (i := 206) rfl)
theorem wd207 {a0 : Array Value} {Z : State} (hw : ∀ d ∈ tables_1, d.before a0 Z = true) : (Jvm.Cond.code ({ cls := "java/util/ImmutableCollections$List12", name := "<init>", desc := "(Ljava/lang/Object;Ljava/lang/Object;)V" } : Jvm.MethodName) jdk_44_method_2_code (3 : Nat) (Option.none : Option Jvm.ClassFile.FieldType)).before a0 Z = true := hw _ (List.mem_of_getElem? (i := 207) rfl)

/-! String constants: the words, the invariant -/
theorem own_safe_raw {Z : State} {EL : List (String × Nat)} {vm : Vm} {h : Heap} {x : Addr} (hal : Z.vm.Alike vm) (E : Exa Z h x "java/lang/String") (F : Fld Z h x "java/lang/String" "value" "[B" .null) : Safe Z EL vm h x := fun B => by
  obtain ⟨p, -, u, a, -, q, -, S, hx⟩ := B
  obtain ⟨cell, kc, e1, e2, -⟩ := E
  rcases hx with rfl | rfl
  · obtain ⟨cS, ⟨⟨h1, -, -, ⟨c1, k1, i1, f1, -⟩, -, -, -, v1, -⟩, -⟩, -⟩ := S
    obtain ⟨cl, cf, k, i, f, g1, g2, -, -, -, -, g7⟩ := F
    obtain ⟨k3, e3, -⟩ := State.fieldFound?_setVm (s := Z) hal g2
    have e4 := (show (Wst Z vm h).fieldFound? _ _ _ = _ from e3).symm.trans f1
    simp only [Option.some.injEq, Prod.mk.injEq] at e4
    cases g1.symm.trans h1
    rw [e4.2.2.2, v1] at g7
    simp at g7
  · have h2 := S.hd
    obtain ⟨cS, -, -, h4, -⟩ := S
    cases e1.symm.trans h2
    have h5 : Z.vm.findClass "[B" = some q.SA.cls := by rw [← hal.findClass]; exact h4
    obtain ⟨k1, a1, a2⟩ := Vm.findClass_spec e2
    obtain ⟨k2, b1, b2⟩ := Vm.findClass_spec h5
    cases a1.symm.trans b1
    exact absurd (a2.symm.trans b2) (by decide)

/-! constants that stand resolved: a callee that loads them again pays nothing -/
theorem own_restand {p : Program} {l : Launch} {e : Env} {R : Room} {s : State} {v w : Vm} {m : MethodId} {args : Array Value} {below : List Frame} {meth : Method} {c : Code} {T : State} {locs : List Loc} {cells slots : Nat} (X : Stand p l e R ((s.setVm v).setVm w) m args below meth c T locs cells slots) : Stand p l e R (s.setVm w) m args below meth c T locs cells slots := X
theorem own_backSL {p : Program} {l : Launch} {e : Env} {R : Room} {s : State} {args : Array Value} {below : List Frame} {Z : State} {a0 : Array Value} {EL : List (String × Nat)} {h : Heap} {vm0 : Vm} {y : MethodName} {bytes : ByteArray} {maxL : Nat} {ret : Option FieldType} {rm : Room} {len W : Nat} {as' : Array Value} {Q : Option Value → Heap → List Loc → Prop}
    {LP : Vm → Prop} {LQ : Vm → Heap → Prop} (hLP : ∀ {vm1 : Vm}, (s.setVm vm0).Warmed39 vm1 → LP vm1)
    (hM : MetFree l y (head1 [Cond.code y bytes maxL ret] rm) (fun a U => a = as' ∧ Z.Warmed39 U.vm ∧ U.heap = h ∧ CHv Z EL U.vm h ∧ LP U.vm) (fun _ _ _ _ _ => True) (fun _ U o U' => ∃ v L, o = .returned v ∧ Q v U'.heap L ∧ (CHr Z EL U.vm U.heap U'.vm U'.heap ∧ LQ U'.vm U'.heap) ∧ ReturnedEndW U o U' L rm.cells rm.slots))
    (hZ : Z.Warmed39 vm0) (wc : (Cond.code y bytes maxL ret).before a0 Z = true) (wz : (Cond.initialized y.cls).before a0 Z = true) (hf : rm.frames + 1 ≤ R.frames) (hl : W + (maxL + 11) + rm.locals ≤ R.locals) (hEL : EW Z a0 EL) (H : CHv Z EL vm0 h) :
    BackS l R p e below (s.setVm vm0) args y len W (fun A a => a = as' ∧ A.U.heap = h ∧ A.cells + rm.cells ≤ R.cells ∧ A.slots + rm.slots ≤ R.slots)
      (fun A _ v B => ∃ L, Q v B.U.heap L ∧ B.locs = A.locs ++ L ∧ B.cells = A.cells + rm.cells ∧ B.slots = A.slots + rm.slots ∧ CHr Z EL vm0 h B.U.vm B.U.heap ∧ LQ B.U.vm B.U.heap) := by
  refine BackS.of_freeW (bytes := bytes) (maxL := maxL) (ret := ret) (E := fun _ fs o t L k n => (k = rm.cells ∧ n = rm.slots) ∧ (∃ v, o = .returned v ∧ Q v t.heap L) ∧ CHr Z EL fs.vm fs.heap t.vm t.heap ∧ LQ t.vm t.heap) hM hf hl ?_ ?_ (fun _ _ _ _ _ _ _ _ _ => trivial) ?_ ?_
  · intro m meth c A a Y hp
    have hU : Z.Warmed39 A.U.vm := wtrans (s := s.setVm vm0) hZ Y.warmed
    refine ⟨?_, mv hU wc, mv hU wz, hp.2.2.1, hp.2.2.2⟩
    show (Cond.and _ .tt).before a A.U = true
    rw [Cond.before_and, mv hU wc]; rfl
  · intro m meth c A a g mk Y hp
    exact ⟨hp.1, wtrans (s := s.setVm vm0) hZ Y.warmed, hp.2.1, (CHv.at Y hZ hEL H).1, hLP (Y.warmed.since 0).1⟩
  · rintro _ _ _ _ ⟨v, L, h1, h2, h3, h4⟩
    exact ⟨L, _, _, h4, ⟨rfl, rfl⟩, ⟨v, h1, h2⟩, h3⟩
  · rintro m meth c A a g mk v t L k n Y hp - - ⟨⟨e1, e2⟩, ⟨v', e3, e4⟩, e5, e6⟩
    cases e3; subst e1 e2
    refine ⟨L, e4, rfl, rfl, rfl, (CHv.at Y hZ hEL H).trans ?_, e6⟩
    rw [← hp.2.1]; exact e5
abbrev ELs : List (String × Nat) := [("com/example/beanloft/beanloft/naming/GlobalName", 125), ("com/example/beanloft/beanloft/naming/GlobalName", 131)]
theorem own_wS {a0 : Array Value} {Z : State} (hw : ∀ d ∈ tables_1, d.before a0 Z = true) : ∀ a ∈ Bundle.stringAtoms, a.before a0 Z = true := fun d hd => hw d ((by decide +kernel : ∀ d ∈ Bundle.stringAtoms, d ∈ tables_1) d hd)
theorem own_EW {a0 : Array Value} {Z : State} (hw : ∀ d ∈ tables_1, d.before a0 Z = true) : EW Z a0 ELs := (EW.cons (wd60 hw) (by decide) (EW.cons (wd96 hw) (by decide) EW.nil))

/-! Strings of Latin-1 chars -/
def LStr (Z : State) (h : Heap) (x t : Addr) (cs : List Int32) : Prop :=
  Exa Z h x "java/lang/String" ∧ Fld Z h x "java/lang/String" "value" "[B" (.ref t) ∧ Fld Z h x "java/lang/String" "coder" "B" (.int (0 : Int32)) ∧
    (∃ kb : ClassId, Arv Z h t kb .byte (Int32.ofNat cs.length) (cs.map fun c => Value.int c.toInt8.toInt32) (.int (0 : Int32))) ∧ (∀ c ∈ cs, ¬ c < 0 ∧ ¬ (255 : Int32) < c) ∧ cs.length ≤ 4000
section OwnStr
variable {Z : State} {h h' : Heap} {x t : Addr} {cs : List Int32} {ws : List Addr}
theorem LStr.ext (F : LStr Z h x t cs) (E : Ext h h') : LStr Z h' x t cs := by
  obtain ⟨a, b, c, ⟨kb, d⟩, f⟩ := F; exact ⟨a.ext E, b.ext E, c.ext E, ⟨kb, d.ext E⟩, f⟩
theorem LStr.keep (F : LStr Z h x t cs) (K : Keep h h' ws) (q : x ∉ ws) (r : t ∉ ws) : LStr Z h' x t cs := by
  obtain ⟨a, b, c, ⟨kb, d⟩, f⟩ := F; exact ⟨a.keep K, b.keep K q, c.keep K q, ⟨kb, d.keep K r⟩, f⟩
theorem LStr.lt (F : LStr Z h x t cs) : x < h.size := F.1.lt
theorem LStr.ltt (F : LStr Z h x t cs) : t < h.size := by obtain ⟨_, _, _, ⟨_, d⟩, _⟩ := F; exact d.lt
theorem own_shr0 (n : Nat) : ((Int32.ofNat n) >>> ((0 : Int32) &&& 31)) = Int32.ofNat n := by
  rw [show ((0 : Int32) &&& 31) = 0 from by decide]; exact Int32.shiftRight_zero
theorem own_len_nn {n : Nat} (h : n ≤ 4000) : ¬ Int32.ofNat n < 0 := by rw [Int32.lt_iff_toInt_lt, Int32.toInt_ofNat_small (by omega)]; simp
theorem own_j0 {j : Int32} {i n : Nat} (hj : j = Int32.ofNat i) (hi : i < n) (hl : n ≤ 4000) : ¬ (j < (0 : Int32)) := by rw [hj]; exact own_len_nn (by omega)
theorem own_jn {j : Int32} {i n : Nat} (hj : j = Int32.ofNat i) (hi : i < n) (hl : n ≤ 4000) : j < Int32.ofNat n := by
  rw [hj, Int32.lt_iff_toInt_lt, Int32.toInt_ofNat_small (by omega), Int32.toInt_ofNat_small (by omega)]; omega
theorem own_jt {j : Int32} {i n : Nat} (hj : j = Int32.ofNat i) (hi : i < n) (hl : n ≤ 4000) : j.toNatClampNeg = i := by rw [hj]; exact Int32.toNatClampNeg_ofNat_of_lt (by omega)
theorem own_vs_at {i : Nat} (hi : i < cs.length) : (cs.map fun c => Value.int c.toInt8.toInt32).getD i (.int (0 : Int32)) = .int ((cs.getD i 0).toInt8.toInt32) := by
  simp [List.getD_eq_getElem?_getD, hi]
theorem own_getD_mem {i : Nat} (hi : i < cs.length) : cs.getD i 0 ∈ cs := by
  rw [show cs.getD i 0 = cs[i] from by simp [List.getD_eq_getElem?_getD, hi]]; exact List.getElem_mem _
theorem own_ch_bv : ∀ n, n < 256 → ((((Int32.ofNat n).toInt8.toInt32 &&& (255 : Int32)).toUInt32.toUInt16.toUInt32.toInt32).toUInt32.toUInt16.toUInt32.toInt32) = Int32.ofNat n := by decide +kernel
theorem own_ch_back {c : Int32} (h : ¬ c < 0 ∧ ¬ (255 : Int32) < c) : nar .char ((c.toInt8.toInt32 &&& (255 : Int32)).toUInt32.toUInt16.toUInt32.toInt32) = c := by
  have e := (back32 h.1).1
  have h2 : c.toNatClampNeg < 256 := by
    have := nat_of h.1; have h3 := h.2; rw [Int32.lt_iff_toInt_lt, this] at h3
    have : ¬ (255 : Int) < (c.toNatClampNeg : Int) := h3
    omega
  have := own_ch_bv c.toNatClampNeg h2
  rw [show Int32.ofNat c.toNatClampNeg = c from e] at this
  exact this
theorem own_nar_char : ∀ n, n < 65536 → nar .char (Int32.ofNat n) = Int32.ofNat n := fun n hn => by
  show (Int32.ofNat n).toUInt32.toUInt16.toUInt32.toInt32 = Int32.ofNat n
  apply Int32.toInt_inj.mp
  rw [Int32.toInt_ofNat_small (by omega)]
  have e : (Int32.ofNat n).toUInt32.toUInt16.toUInt32.toNat = n := by
    simp only [UInt16.toNat_toUInt32, UInt32.toNat_toUInt16]
    show (Int32.ofNat n).toUInt32.toNat % 2 ^ 16 = n
    rw [show (Int32.ofNat n).toUInt32 = UInt32.ofNat n from rfl, UInt32.toNat_ofNat_of_lt' (by show n < 2 ^ 32; omega)]
    omega
  show (((Int32.ofNat n).toUInt32.toUInt16.toUInt32).toInt32).toInt = _
  rw [show ((Int32.ofNat n).toUInt32.toUInt16.toUInt32).toInt32 = Int32.ofNat ((Int32.ofNat n).toUInt32.toUInt16.toUInt32.toNat) from by
    generalize (Int32.ofNat n).toUInt32.toUInt16.toUInt32 = u
    apply Int32.toBitVec_inj.mp; simp [Int32.toBitVec_ofNat], e, Int32.toInt_ofNat_small (by omega)]
theorem own_nar_c {c : Int32} (h : ¬ c < 0 ∧ ¬ (255 : Int32) < c) : nar .char c = c := by
  have e := (back32 h.1).1
  have h2 : c.toNatClampNeg < 65536 := by
    have := nat_of h.1; have h3 := h.2; rw [Int32.lt_iff_toInt_lt, this] at h3
    have : ¬ (255 : Int) < (c.toNatClampNeg : Int) := h3
    omega
  have := own_nar_char c.toNatClampNeg h2
  rw [show Int32.ofNat c.toNatClampNeg = c from e] at this
  exact this
end OwnStr
theorem own_i8 (x : Int32) : (x.toInt8.toInt32).toInt8.toInt32 = x.toInt8.toInt32 := by simp

theorem own_ch_byte {c : Int32} (hn : ¬ (c < (0 : Int32))) (hb : ¬ ((255 : Int32) < c)) {k : Int32} (hk : ¬ (k < (0 : Int32)) ∧ k < (128 : Int32)) (h : ¬ (c = k)) : ¬ ((c.toInt8.toInt32) = k) := fun q => h (by
  have e := own_ch_back ⟨hn, hb⟩
  rw [q] at e
  rw [← e]
  have e2 := (back32 hk.1).1
  have h2 : k.toNatClampNeg < 128 := by have := hk.2; rw [Int32.lt_iff_toInt_lt, nat_of hk.1] at this; have : ((k.toNatClampNeg : Nat) : Int) < 128 := this; omega
  have key : ∀ n, n < 128 → nar .char ((Int32.ofNat n &&& (255 : Int32)).toUInt32.toUInt16.toUInt32.toInt32) = Int32.ofNat n := by decide +kernel
  have := key k.toNatClampNeg h2
  rw [show Int32.ofNat k.toNatClampNeg = k from e2] at this
  exact this)
def chF (q : Int32) : Int32 := if (q &&& (255 : Int32)) = (47 : Int32) then 48 else if (q &&& (255 : Int32)) = (33 : Int32) then 34 else (q &&& (255 : Int32))
theorem own_m255 (q : Int32) : ¬ ((q &&& (255 : Int32)) < (0 : Int32)) ∧ ¬ ((255 : Int32) < (q &&& (255 : Int32))) := by
  have e := Jvm.Kit.i32_mask q 255 (k := 8) (by decide) (by decide)
  have h1 := Int.emod_nonneg q.toInt (show (2 : Int) ^ 8 ≠ 0 by decide)
  have h2 := Int.emod_lt_of_pos q.toInt (show (0 : Int) < 2 ^ 8 by decide)
  rw [Int32.lt_iff_toInt_lt, Int32.lt_iff_toInt_lt, e]
  constructor
  · show ¬ _ < (0 : Int); omega
  · show ¬ (255 : Int) < _; omega
theorem own_chB (q : Int32) : ¬ (chF q < (0 : Int32)) ∧ ¬ ((255 : Int32) < chF q) ∧ ¬ (chF q = (47 : Int32)) ∧ ¬ (chF q = (33 : Int32)) := by
  unfold chF; split
  · decide
  · split
    · decide
    · exact ⟨(own_m255 q).1, (own_m255 q).2, by assumption, by assumption⟩
theorem own_ch47 {q : Int32} (h : (q &&& (255 : Int32)) = (47 : Int32)) : nar .char ((((q &&& (255 : Int32)) + (1 : Int32))).toUInt32.toUInt16.toUInt32.toInt32) = chF q := by unfold chF; rw [if_pos h, h]; decide
theorem own_ch33 {q : Int32} (h1 : ¬ (q &&& (255 : Int32)) = (47 : Int32)) (h : (q &&& (255 : Int32)) = (33 : Int32)) : nar .char ((((q &&& (255 : Int32)) + (1 : Int32))).toUInt32.toUInt16.toUInt32.toInt32) = chF q := by unfold chF; rw [if_neg h1, if_pos h, h]; decide
theorem own_ch0 {q : Int32} (h1 : ¬ (q &&& (255 : Int32)) = (47 : Int32)) (h2 : ¬ (q &&& (255 : Int32)) = (33 : Int32)) : nar .char (((q &&& (255 : Int32))).toUInt32.toUInt16.toUInt32.toInt32) = chF q := by
  unfold chF; rw [if_neg h1, if_neg h2, i2c_mask]; exact own_nar_c (own_m255 q)

theorem d_method_3_code_0 : decode method_3_code 0 = .ok (.iload_n 0, 1) := by decide +kernel
theorem d_method_3_code_1 : decode method_3_code 1 = .ok (.sipush 255, 3) := by decide +kernel
theorem d_method_3_code_4 : decode method_3_code 4 = .ok (.iand, 1) := by decide +kernel
theorem d_method_3_code_5 : decode method_3_code 5 = .ok (.istore_n 1, 1) := by decide +kernel
theorem d_method_3_code_6 : decode method_3_code 6 = .ok (.iload_n 1, 1) := by decide +kernel
theorem d_method_3_code_7 : decode method_3_code 7 = .ok (.bipush 47, 2) := by decide +kernel
theorem d_method_3_code_9 : decode method_3_code 9 = .ok (.if_icmp .eq 9, 3) := by decide +kernel
theorem d_method_3_code_12 : decode method_3_code 12 = .ok (.iload_n 1, 1) := by decide +kernel
theorem d_method_3_code_13 : decode method_3_code 13 = .ok (.bipush 33, 2) := by decide +kernel
theorem d_method_3_code_15 : decode method_3_code 15 = .ok (.if_icmp .ne 7, 3) := by decide +kernel
theorem d_method_3_code_18 : decode method_3_code 18 = .ok (.iload_n 1, 1) := by decide +kernel
theorem d_method_3_code_19 : decode method_3_code 19 = .ok (.iconst 1, 1) := by decide +kernel
theorem d_method_3_code_20 : decode method_3_code 20 = .ok (.iadd, 1) := by decide +kernel
theorem d_method_3_code_21 : decode method_3_code 21 = .ok (.istore_n 1, 1) := by decide +kernel
theorem d_method_3_code_22 : decode method_3_code 22 = .ok (.iload_n 1, 1) := by decide +kernel
theorem d_method_3_code_23 : decode method_3_code 23 = .ok (.i2c, 1) := by decide +kernel
theorem d_method_3_code_24 : decode method_3_code 24 = .ok (.ireturn, 1) := by decide +kernel
theorem pn_com_example_beanloft_beanloft_naming_GlobalNameFormsPinLaw : plainName "com/example/beanloft/beanloft/naming/GlobalNameFormsPinLaw" = true := by first | (simp [plainName, overriddenIn]; done) | decide +kernel
theorem ef_chc (mi : MethodId) (q : Int32) : entryFrame mi #[(.int q)] 2 = mkF mi 0 #[.val (.int q), .unset] [] := by first | (simp [entryFrame, mkF, argsToLocals, Value.category]; done) | rfl
def Q_chc (Z : State) (q : Int32) (hE : Heap) (n0 : Nat) (vv : Option Value) (hh : Heap) (LL : List Loc) : Prop := (vv = some (.int (chF q))) ∧ (Fr n0 LL) ∧ (hh = hE)
set_option maxRecDepth 65536 in
set_option maxHeartbeats 40000000 in
theorem rm_chc (la : Launch) (Z : State) (a0 : Array Value) (hw : ∀ d ∈ tables_1, d.before a0 Z = true) (ws : List Jvm.Cond) (q : Int32) (hE : Heap) (n0 : Nat) (O : Old Z n0 hE) :
    MetFree la mn0 (head1 (Jvm.Cond.code mn0 method_3_code 2 (some .char) :: ws) ({ frames := 0, cells := 0, slots := 0, locals := 0 } : Room)) (fun aa UU => aa = #[(.int q)] ∧ Z.Warmed39 UU.vm ∧ UU.heap = hE) (fun _ _ _ _ _ => True) (fun _ UU oo UV => ∃ vv LL, oo = .returned vv ∧ Q_chc Z q hE n0 vv UV.heap LL ∧ FrameEnd UU oo UV LL ({ frames := 0, cells := 0, slots := 0, locals := 0 } : Room).cells ({ frames := 0, cells := 0, slots := 0, locals := 0 } : Room).slots) := by
  refine MetFree.of_bodySF (plainFor_of_name pn_com_example_beanloft_beanloft_naming_GlobalNameFormsPinLaw) hisR ?_
  intro pg ev sb mi gs below me cd s₁ Bd hml0 hPt hKt
  obtain ⟨rfl, hZ, hh⟩ := hPt
  have hx := Bd.exec
  have hby := Bd.bytes
  have hml : cd.maxLocals = 2 := hml0
  have hown : sb.vm.findClass "com/example/beanloft/beanloft/naming/GlobalNameFormsPinLaw" = some mi.cls := findClass_of_methodNamed Bd.named
  have hnm := (name_of_methodNamed Bd.named Bd.method).1
  have X0 : Stand pg la ev ({ frames := 0, cells := 0, slots := 0, locals := 0 } : Room) sb mi #[(.int q)] below me cd s₁ [] 0 0 := Stand.of_body Bd
  have eE : s₁.heap = hE := by rw [← hh, Bd.state]; rfl
  have N0 := Fr.nil n0
  have pre0 : ∀ tt, Steps pg.tables ev below (s₁.setTop (mkF mi 0 #[.val (.int q), .unset] [])) tt → Steps pg.tables ev below (s₁.setTop (entryFrame mi #[(.int q)] 2)) tt := fun tt kk => castTop (ef_chc mi q) kk
  have pre102 : ∀ tt, Steps pg.tables ev below (s₁.setTop (mkF mi 9 #[.val (.int q), .val (.int (q &&& (255 : Int32)))] [(.int (47 : Int32)), (.int (q &&& (255 : Int32)))])) tt → Steps pg.tables ev below (s₁.setTop (entryFrame mi #[(.int q)] 2)) tt := fun tt kk => pre0 _ (by
    show Steps pg.tables ev below (s₁.setTop (mkF mi 0 #[.val (.int q), .unset] [])) _
    refine XS.iloadN X0.here hx rfl (hb hby d_method_3_code_0) rfl ?_
    refine XS.sipush X0.here hx rfl (hb hby d_method_3_code_1) ?_
    refine XS.iand X0.here hx rfl (hb hby d_method_3_code_4) rfl ?_
    refine XS.istoreN X0.here hx rfl (hb hby d_method_3_code_5) rfl (l' := #[.val (.int q), .val (.int (q &&& (255 : Int32)))]) rfl ?_
    refine XS.iloadN X0.here hx rfl (hb hby d_method_3_code_6) rfl ?_
    refine XS.bipush X0.here hx rfl (hb hby d_method_3_code_7) ?_
    exact kk)
  by_cases hc101 : (q &&& (255 : Int32)) = (47 : Int32)
  · obtain ⟨fs, hr, hrun, hended, hW, hsame⟩ := X0.leave (v := some (.int (nar .char (((q &&& (255 : Int32)) + (1 : Int32)).toUInt32.toUInt16.toUInt32.toInt32)))) (fun hq => by rw [Bd.returns] at hq; cases hq)
    refine ⟨_, _, pre102 _ ?_, hrun, hended, _, _, rfl, ?_, ⟨_, rfl⟩, hW, hsame.mono (by decide) (by decide)⟩
    · show Steps pg.tables ev below (s₁.setTop (mkF mi 9 #[.val (.int q), .val (.int (q &&& (255 : Int32)))] [(.int (47 : Int32)), (.int (q &&& (255 : Int32)))])) _
      refine XS.icmpYes X0.here hx rfl (pc0 := 9) (pc' := 18) rfl (hb hby d_method_3_code_9) rfl (teq hc101).1 (by decide) (by decide) ?_
      refine XS.iloadN X0.here hx rfl (hb hby d_method_3_code_18) rfl ?_
      refine XS.iconst X0.here hx rfl (hb hby d_method_3_code_19) ?_
      refine XS.iadd X0.here hx rfl (hb hby d_method_3_code_20) rfl ?_
      refine XS.istoreN X0.here hx rfl (hb hby d_method_3_code_21) rfl (l' := #[.val (.int q), .val (.int ((q &&& (255 : Int32)) + (1 : Int32)))]) rfl ?_
      refine XS.iloadN X0.here hx rfl (hb hby d_method_3_code_22) rfl ?_
      show Steps pg.tables ev below (s₁.setTop (mkF mi 23 #[.val (.int q), .val (.int ((q &&& (255 : Int32)) + (1 : Int32)))] [(.int ((q &&& (255 : Int32)) + (1 : Int32)))])) _
      refine XS.i2c X0.here hx rfl (hb hby d_method_3_code_23) rfl ?_
      show Steps pg.tables ev below (s₁.setTop (mkF mi 24 #[.val (.int q), .val (.int ((q &&& (255 : Int32)) + (1 : Int32)))] [(.int (((q &&& (255 : Int32)) + (1 : Int32)).toUInt32.toUInt16.toUInt32.toInt32))])) _
      exact retN X0 hx (t := .char) Bd.returns (by simp) (hb hby d_method_3_code_24) hr
    · show Q_chc Z q hE n0 _ s₁.heap _
      rw [eE]
      exact ⟨(congrArg (fun z => some (Value.int z)) (own_ch47 hc101)), N0, rfl⟩
  · have pre104 : ∀ tt, Steps pg.tables ev below (s₁.setTop (mkF mi 15 #[.val (.int q), .val (.int (q &&& (255 : Int32)))] [(.int (33 : Int32)), (.int (q &&& (255 : Int32)))])) tt → Steps pg.tables ev below (s₁.setTop (entryFrame mi #[(.int q)] 2)) tt := fun tt kk => pre102 _ (by
      show Steps pg.tables ev below (s₁.setTop (mkF mi 9 #[.val (.int q), .val (.int (q &&& (255 : Int32)))] [(.int (47 : Int32)), (.int (q &&& (255 : Int32)))])) _
      refine XS.icmpNo X0.here hx rfl (hb hby d_method_3_code_9) rfl (feq hc101).1 ?_
      refine XS.iloadN X0.here hx rfl (hb hby d_method_3_code_12) rfl ?_
      refine XS.bipush X0.here hx rfl (hb hby d_method_3_code_13) ?_
      exact kk)
    by_cases hc103 : (q &&& (255 : Int32)) = (33 : Int32)
    · obtain ⟨fs, hr, hrun, hended, hW, hsame⟩ := X0.leave (v := some (.int (nar .char (((q &&& (255 : Int32)) + (1 : Int32)).toUInt32.toUInt16.toUInt32.toInt32)))) (fun hq => by rw [Bd.returns] at hq; cases hq)
      refine ⟨_, _, pre104 _ ?_, hrun, hended, _, _, rfl, ?_, ⟨_, rfl⟩, hW, hsame.mono (by decide) (by decide)⟩
      · show Steps pg.tables ev below (s₁.setTop (mkF mi 15 #[.val (.int q), .val (.int (q &&& (255 : Int32)))] [(.int (33 : Int32)), (.int (q &&& (255 : Int32)))])) _
        refine XS.icmpNo X0.here hx rfl (hb hby d_method_3_code_15) rfl (teq hc103).2 ?_
        refine XS.iloadN X0.here hx rfl (hb hby d_method_3_code_18) rfl ?_
        refine XS.iconst X0.here hx rfl (hb hby d_method_3_code_19) ?_
        refine XS.iadd X0.here hx rfl (hb hby d_method_3_code_20) rfl ?_
        refine XS.istoreN X0.here hx rfl (hb hby d_method_3_code_21) rfl (l' := #[.val (.int q), .val (.int ((q &&& (255 : Int32)) + (1 : Int32)))]) rfl ?_
        refine XS.iloadN X0.here hx rfl (hb hby d_method_3_code_22) rfl ?_
        show Steps pg.tables ev below (s₁.setTop (mkF mi 23 #[.val (.int q), .val (.int ((q &&& (255 : Int32)) + (1 : Int32)))] [(.int ((q &&& (255 : Int32)) + (1 : Int32)))])) _
        refine XS.i2c X0.here hx rfl (hb hby d_method_3_code_23) rfl ?_
        show Steps pg.tables ev below (s₁.setTop (mkF mi 24 #[.val (.int q), .val (.int ((q &&& (255 : Int32)) + (1 : Int32)))] [(.int (((q &&& (255 : Int32)) + (1 : Int32)).toUInt32.toUInt16.toUInt32.toInt32))])) _
        exact retN X0 hx (t := .char) Bd.returns (by simp) (hb hby d_method_3_code_24) hr
      · show Q_chc Z q hE n0 _ s₁.heap _
        rw [eE]
        exact ⟨(congrArg (fun z => some (Value.int z)) (own_ch33 hc101 hc103)), N0, rfl⟩
    · obtain ⟨fs, hr, hrun, hended, hW, hsame⟩ := X0.leave (v := some (.int (nar .char ((q &&& (255 : Int32)).toUInt32.toUInt16.toUInt32.toInt32)))) (fun hq => by rw [Bd.returns] at hq; cases hq)
      refine ⟨_, _, pre104 _ ?_, hrun, hended, _, _, rfl, ?_, ⟨_, rfl⟩, hW, hsame.mono (by decide) (by decide)⟩
      · show Steps pg.tables ev below (s₁.setTop (mkF mi 15 #[.val (.int q), .val (.int (q &&& (255 : Int32)))] [(.int (33 : Int32)), (.int (q &&& (255 : Int32)))])) _
        refine XS.icmpYes X0.here hx rfl (pc0 := 15) (pc' := 22) rfl (hb hby d_method_3_code_15) rfl (feq hc103).2 (by decide) (by decide) ?_
        refine XS.iloadN X0.here hx rfl (hb hby d_method_3_code_22) rfl ?_
        refine XS.i2c X0.here hx rfl (hb hby d_method_3_code_23) rfl ?_
        show Steps pg.tables ev below (s₁.setTop (mkF mi 24 #[.val (.int q), .val (.int (q &&& (255 : Int32)))] [(.int ((q &&& (255 : Int32)).toUInt32.toUInt16.toUInt32.toInt32))])) _
        exact retN X0 hx (t := .char) Bd.returns (by simp) (hb hby d_method_3_code_24) hr
      · show Q_chc Z q hE n0 _ s₁.heap _
        rw [eE]
        exact ⟨(congrArg (fun z => some (Value.int z)) (own_ch0 hc101 hc103)), N0, rfl⟩
theorem d_jdk_42_method_151_code_0 : decode jdk_42_method_151_code 0 = .ok (.aload_n 0, 1) := by decide +kernel
theorem d_jdk_42_method_151_code_1 : decode jdk_42_method_151_code 1 = .ok (.invokespecial 1, 3) := by decide +kernel
theorem d_jdk_42_method_151_code_4 : decode jdk_42_method_151_code 4 = .ok (.aload_n 0, 1) := by decide +kernel
theorem d_jdk_42_method_151_code_5 : decode jdk_42_method_151_code 5 = .ok (.aload_n 1, 1) := by decide +kernel
theorem d_jdk_42_method_151_code_6 : decode jdk_42_method_151_code 6 = .ok (.putfield 9, 3) := by decide +kernel
theorem d_jdk_42_method_151_code_9 : decode jdk_42_method_151_code 9 = .ok (.aload_n 0, 1) := by decide +kernel
theorem d_jdk_42_method_151_code_10 : decode jdk_42_method_151_code 10 = .ok (.iload_n 2, 1) := by decide +kernel
theorem d_jdk_42_method_151_code_11 : decode jdk_42_method_151_code 11 = .ok (.putfield 15, 3) := by decide +kernel
theorem d_jdk_42_method_151_code_14 : decode jdk_42_method_151_code 14 = .ok (.return_, 1) := by decide +kernel
theorem pn_java_lang_String : plainName "java/lang/String" = true := by first | (simp [plainName, overriddenIn]; done) | decide +kernel
theorem ef_sbb (mi : MethodId) (a : Addr) (t : Addr) : entryFrame mi #[(.ref a), (.ref t), (.int (0 : Int32))] 3 = mkF mi 0 #[.val (.ref a), .val (.ref t), .val (.int (0 : Int32))] [] := by first | (simp [entryFrame, mkF, argsToLocals, Value.category]; done) | rfl
def Q_sbb (Z : State) (a : Addr) (t : Addr) (hE : Heap) (n0 : Nat) (vv : Option Value) (hh : Heap) (LL : List Loc) : Prop := (vv = none) ∧ (Fr n0 LL) ∧ (Keep hE hh [a]) ∧ (Exa Z hh a "java/lang/String") ∧ (Fld Z hh a "java/lang/String" "value" "[B" (.ref t)) ∧ (Fld Z hh a "java/lang/String" "coder" "B" (.int (0 : Int32)))
set_option maxRecDepth 65536 in
set_option maxHeartbeats 40000000 in
theorem rm_sbb (la : Launch) (Z : State) (a0 : Array Value) (hw : ∀ d ∈ tables_1, d.before a0 Z = true) (ws : List Jvm.Cond) (a : Addr) (t : Addr) (hE : Heap) (n0 : Nat) (O : Old Z n0 hE) (P0_ : Exa Z hE a "java/lang/String") (P1_ : Fld Z hE a "java/lang/String" "value" "[B" .null) (P2_ : Fld Z hE a "java/lang/String" "coder" "B" (.int (0 : Int32))) (g_a : n0 ≤ a) :
    MetFree la mn1 (head1 (Jvm.Cond.code mn1 jdk_42_method_151_code 3 none :: ws) ({ frames := 1, cells := 0, slots := 0, locals := 12 } : Room)) (fun aa UU => aa = #[(.ref a), (.ref t), (.int (0 : Int32))] ∧ Z.Warmed39 UU.vm ∧ UU.heap = hE) (fun _ _ _ _ _ => True) (fun _ UU oo UV => ∃ vv LL, oo = .returned vv ∧ Q_sbb Z a t hE n0 vv UV.heap LL ∧ FrameEnd UU oo UV LL ({ frames := 1, cells := 0, slots := 0, locals := 12 } : Room).cells ({ frames := 1, cells := 0, slots := 0, locals := 12 } : Room).slots) := by
  refine MetFree.of_bodySF (plainFor_of_name pn_java_lang_String) hisR ?_
  intro pg ev sb mi gs below me cd s₁ Bd hml0 hPt hKt
  obtain ⟨rfl, hZ, hh⟩ := hPt
  have hx := Bd.exec
  have hby := Bd.bytes
  have hml : cd.maxLocals = 3 := hml0
  have hown : sb.vm.findClass "java/lang/String" = some mi.cls := findClass_of_methodNamed Bd.named
  have hnm := (name_of_methodNamed Bd.named Bd.method).1
  have X0 : Stand pg la ev ({ frames := 1, cells := 0, slots := 0, locals := 12 } : Room) sb mi #[(.ref a), (.ref t), (.int (0 : Int32))] below me cd s₁ [] 0 0 := Stand.of_body Bd
  have eE : s₁.heap = hE := by rw [← hh, Bd.state]; rfl
  have N0 := Fr.nil n0
  have pre0 : ∀ tt, Steps pg.tables ev below (s₁.setTop (mkF mi 0 #[.val (.ref a), .val (.ref t), .val (.int (0 : Int32))] [])) tt → Steps pg.tables ev below (s₁.setTop (entryFrame mi #[(.ref a), (.ref t), (.int (0 : Int32))] 3)) tt := fun tt kk => castTop (ef_sbb mi a t) kk
  obtain ⟨T101, X101, e101, st101⟩ := initO X0 hx hZ hown (wd23 hw) (wd24 hw) (wd25 hw) eE (g := (mkF mi 1 #[.val (.ref a), .val (.ref t), .val (.int (0 : Int32))] [(.ref a)])) rfl (by rw [hml]; rfl) rfl (hb hby d_jdk_42_method_151_code_1) (by decide) (W := 0) (by show 2 * 0 + _ ≤ _; exact Nat.le_of_eq rfl) (by decide)
  obtain ⟨T102, h102, X102, e102, W102, st102⟩ := putF X101 hx hZ hown (host := "") (Or.inl (wd26 hw)) Via.refl e101 P1_ P0_ (Or.inr ⟨(wd27 hw), rfl, hnm⟩) (wd14 hw) (ty := (.array .byte)) (by decide) rfl rfl (g := (mkF mi 6 #[.val (.ref a), .val (.ref t), .val (.int (0 : Int32))] [(.ref t), (.ref a)])) rfl rfl (hb hby d_jdk_42_method_151_code_6)
  have N102 := Fr.snoc X102 N0 g_a
  have f103 : Fld Z h102 a "java/lang/String" "value" "[B" (.ref t) := P1_.same W102
  have f104 : Exa Z h102 a "java/lang/String" := (P0_.keep (Keep.of_wr W102))
  have f105 : Fld Z h102 a "java/lang/String" "coder" "B" (.int (0 : Int32)) := (P2_.other W102 (Or.inr (slot_ne (Or.inr (wd29 hw)) (Or.inr (wd27 hw)) (by decide) (t := .byte) (t' := (.array .byte)) (by decide) (by decide))))
  obtain ⟨T106, h106, X106, e106, W106, st106⟩ := putFN X102 hx hZ hown (wd28 hw) Via.refl e102 f105 f104 (Or.inr ⟨(wd29 hw), rfl, hnm⟩) (wd14 hw) (ty := .byte) (v' := (.int (0 : Int32))) (by decide) rfl rfl (g := (mkF mi 11 #[.val (.ref a), .val (.ref t), .val (.int (0 : Int32))] [(.int (0 : Int32)), (.ref a)])) rfl rfl (hb hby d_jdk_42_method_151_code_11)
  have N106 := Fr.snoc X106 N102 g_a
  have f107 : Fld Z h106 a "java/lang/String" "coder" "B" (.int (0 : Int32)) := f105.same W106
  have f108 : Exa Z h106 a "java/lang/String" := (f104.keep (Keep.of_wr W106))
  have f109 : Fld Z h106 a "java/lang/String" "value" "[B" (.ref t) := (f103.other W106 (Or.inr (slot_ne (Or.inr (wd27 hw)) (Or.inr (wd29 hw)) (by decide) (t := (.array .byte)) (t' := .byte) (by decide) (by decide))))
  obtain ⟨fs, hr, hrun, hended, hW, hsame⟩ := X106.leave (v := none) (fun _ => rfl)
  refine ⟨_, _, pre0 _ ?_, hrun, hended, _, _, rfl, ?_, ⟨_, rfl⟩, hW, hsame.mono (by decide) (by decide)⟩
  · show Steps pg.tables ev below (s₁.setTop (mkF mi 0 #[.val (.ref a), .val (.ref t), .val (.int (0 : Int32))] [])) _
    refine XS.aloadN X0.here hx rfl (hb hby d_jdk_42_method_151_code_0) rfl rfl ?_
    show Steps pg.tables ev below (s₁.setTop (mkF mi 1 #[.val (.ref a), .val (.ref t), .val (.int (0 : Int32))] [(.ref a)])) _
    refine st101 _ ?_
    show Steps pg.tables ev below (T101.setTop (mkF mi 4 #[.val (.ref a), .val (.ref t), .val (.int (0 : Int32))] [])) _
    refine XS.aloadN X101.here hx rfl (hb hby d_jdk_42_method_151_code_4) rfl rfl ?_
    refine XS.aloadN X101.here hx rfl (hb hby d_jdk_42_method_151_code_5) rfl rfl ?_
    show Steps pg.tables ev below (T101.setTop (mkF mi 6 #[.val (.ref a), .val (.ref t), .val (.int (0 : Int32))] [(.ref t), (.ref a)])) _
    refine st102 _ ?_
    show Steps pg.tables ev below (T102.setTop (mkF mi 9 #[.val (.ref a), .val (.ref t), .val (.int (0 : Int32))] [])) _
    refine XS.aloadN X102.here hx rfl (hb hby d_jdk_42_method_151_code_9) rfl rfl ?_
    refine XS.iloadN X102.here hx rfl (hb hby d_jdk_42_method_151_code_10) rfl ?_
    show Steps pg.tables ev below (T102.setTop (mkF mi 11 #[.val (.ref a), .val (.ref t), .val (.int (0 : Int32))] [(.int (0 : Int32)), (.ref a)])) _
    refine st106 _ ?_
    show Steps pg.tables ev below (T106.setTop (mkF mi 14 #[.val (.ref a), .val (.ref t), .val (.int (0 : Int32))] [])) _
    exact X106.returnOut hx Bd.returns (hb hby d_jdk_42_method_151_code_14) hr
  · show Q_sbb Z a t hE n0 _ T106.heap _
    rw [e106]
    exact ⟨rfl, N106, (((Keep.refl hE [a]).trans (Keep.of_wr W102) (allS (Or.inl (List.mem_of_getElem? (i := 0) rfl)) all0)).trans (Keep.of_wr W106) (allS (Or.inl (List.mem_of_getElem? (i := 0) rfl)) all0)), f108, f109, f107⟩
theorem d_jdk_43_method_3_code_0 : decode jdk_43_method_3_code 0 = .ok (.iload_n 0, 1) := by decide +kernel
theorem d_jdk_43_method_3_code_1 : decode jdk_43_method_3_code 1 = .ok (.sipush 255, 3) := by decide +kernel
theorem d_jdk_43_method_3_code_4 : decode jdk_43_method_3_code 4 = .ok (.if_icmp .gt 7, 3) := by decide +kernel
theorem d_jdk_43_method_3_code_7 : decode jdk_43_method_3_code 7 = .ok (.iconst 1, 1) := by decide +kernel
theorem d_jdk_43_method_3_code_8 : decode jdk_43_method_3_code 8 = .ok (.goto 4, 3) := by decide +kernel
theorem d_jdk_43_method_3_code_12 : decode jdk_43_method_3_code 12 = .ok (.ireturn, 1) := by decide +kernel
theorem pn_java_lang_StringLatin1 : plainName "java/lang/StringLatin1" = true := by first | (simp [plainName, overriddenIn]; done) | decide +kernel
theorem ef_cenc (mi : MethodId) (c : Int32) : entryFrame mi #[(.int c)] 1 = mkF mi 0 #[.val (.int c)] [] := by first | (simp [entryFrame, mkF, argsToLocals, Value.category]; done) | rfl
def Q_cenc (Z : State) (c : Int32) (hE : Heap) (n0 : Nat) (vv : Option Value) (hh : Heap) (LL : List Loc) : Prop := (vv = some (.int (1 : Int32))) ∧ (Fr n0 LL) ∧ (hh = hE)
set_option maxRecDepth 65536 in
set_option maxHeartbeats 40000000 in
theorem rm_cenc (la : Launch) (Z : State) (a0 : Array Value) (hw : ∀ d ∈ tables_1, d.before a0 Z = true) (ws : List Jvm.Cond) (c : Int32) (hE : Heap) (n0 : Nat) (O : Old Z n0 hE) (hbb : ¬ ((255 : Int32) < c)) :
    MetFree la mn2 (head1 (Jvm.Cond.code mn2 jdk_43_method_3_code 1 (some .boolean) :: ws) ({ frames := 0, cells := 0, slots := 0, locals := 0 } : Room)) (fun aa UU => aa = #[(.int c)] ∧ Z.Warmed39 UU.vm ∧ UU.heap = hE) (fun _ _ _ _ _ => True) (fun _ UU oo UV => ∃ vv LL, oo = .returned vv ∧ Q_cenc Z c hE n0 vv UV.heap LL ∧ FrameEnd UU oo UV LL ({ frames := 0, cells := 0, slots := 0, locals := 0 } : Room).cells ({ frames := 0, cells := 0, slots := 0, locals := 0 } : Room).slots) := by
  refine MetFree.of_bodySF (plainFor_of_name pn_java_lang_StringLatin1) hisR ?_
  intro pg ev sb mi gs below me cd s₁ Bd hml0 hPt hKt
  obtain ⟨rfl, hZ, hh⟩ := hPt
  have hx := Bd.exec
  have hby := Bd.bytes
  have hml : cd.maxLocals = 1 := hml0
  have hown : sb.vm.findClass "java/lang/StringLatin1" = some mi.cls := findClass_of_methodNamed Bd.named
  have hnm := (name_of_methodNamed Bd.named Bd.method).1
  have X0 : Stand pg la ev ({ frames := 0, cells := 0, slots := 0, locals := 0 } : Room) sb mi #[(.int c)] below me cd s₁ [] 0 0 := Stand.of_body Bd
  have eE : s₁.heap = hE := by rw [← hh, Bd.state]; rfl
  have N0 := Fr.nil n0
  have pre0 : ∀ tt, Steps pg.tables ev below (s₁.setTop (mkF mi 0 #[.val (.int c)] [])) tt → Steps pg.tables ev below (s₁.setTop (entryFrame mi #[(.int c)] 1)) tt := fun tt kk => castTop (ef_cenc mi c) kk
  obtain ⟨fs, hr, hrun, hended, hW, hsame⟩ := X0.leave (v := some (.int (1 : Int32))) (fun hq => by rw [Bd.returns] at hq; cases hq)
  refine ⟨_, _, pre0 _ ?_, hrun, hended, _, _, rfl, ?_, ⟨_, rfl⟩, hW, hsame.mono (by decide) (by decide)⟩
  · show Steps pg.tables ev below (s₁.setTop (mkF mi 0 #[.val (.int c)] [])) _
    refine XS.iloadN X0.here hx rfl (hb hby d_jdk_43_method_3_code_0) rfl ?_
    refine XS.sipush X0.here hx rfl (hb hby d_jdk_43_method_3_code_1) ?_
    refine XS.icmpNo X0.here hx rfl (hb hby d_jdk_43_method_3_code_4) rfl (flt hbb).2.2.1 ?_
    refine XS.iconst X0.here hx rfl (hb hby d_jdk_43_method_3_code_7) ?_
    refine XS.goto X0.here hx rfl (pc0 := 8) (pc' := 12) rfl (hb hby d_jdk_43_method_3_code_8) (by decide) (by decide) ?_
    show Steps pg.tables ev below (s₁.setTop (mkF mi 12 #[.val (.int c)] [(.int (1 : Int32))])) _
    exact retN X0 hx (t := .boolean) Bd.returns (by simp) (hb hby d_jdk_43_method_3_code_12) hr
  · show Q_cenc Z c hE n0 _ s₁.heap _
    rw [eE]
    exact ⟨rfl, N0, rfl⟩
theorem d_jdk_43_method_46_code_0 : decode jdk_43_method_46_code 0 = .ok (.iconst 1, 1) := by decide +kernel
theorem d_jdk_43_method_46_code_1 : decode jdk_43_method_46_code 1 = .ok (.newarray .byte, 2) := by decide +kernel
theorem d_jdk_43_method_46_code_3 : decode jdk_43_method_46_code 3 = .ok (.dup, 1) := by decide +kernel
theorem d_jdk_43_method_46_code_4 : decode jdk_43_method_46_code 4 = .ok (.iconst 0, 1) := by decide +kernel
theorem d_jdk_43_method_46_code_5 : decode jdk_43_method_46_code 5 = .ok (.iload_n 0, 1) := by decide +kernel
theorem d_jdk_43_method_46_code_6 : decode jdk_43_method_46_code 6 = .ok (.i2b, 1) := by decide +kernel
theorem d_jdk_43_method_46_code_7 : decode jdk_43_method_46_code 7 = .ok (.bastore, 1) := by decide +kernel
theorem d_jdk_43_method_46_code_8 : decode jdk_43_method_46_code 8 = .ok (.areturn, 1) := by decide +kernel
theorem ef_tob (mi : MethodId) (c : Int32) : entryFrame mi #[(.int c)] 1 = mkF mi 0 #[.val (.int c)] [] := by first | (simp [entryFrame, mkF, argsToLocals, Value.category]; done) | rfl
def Q_tob (Z : State) (c : Int32) (hE : Heap) (n0 : Nat) (vv : Option Value) (hh : Heap) (LL : List Loc) : Prop := ∃ t : Addr, ∃ kt : ClassId, (vv = some (.ref t)) ∧ (Fr n0 LL) ∧ (Keep hE hh []) ∧ (hE.size ≤ t) ∧ (Arv Z hh t kt .byte (1 : Int32) [(.int c.toInt8.toInt32)] (.int (0 : Int32)))
set_option maxRecDepth 65536 in
set_option maxHeartbeats 40000000 in
theorem rm_tob (la : Launch) (Z : State) (a0 : Array Value) (hw : ∀ d ∈ tables_1, d.before a0 Z = true) (ws : List Jvm.Cond) (c : Int32) (hE : Heap) (n0 : Nat) (O : Old Z n0 hE) :
    MetFree la mn3 (head1 (Jvm.Cond.code mn3 jdk_43_method_46_code 1 (some (.array .byte)) :: ws) ({ frames := 0, cells := 1, slots := 1, locals := 0 } : Room)) (fun aa UU => aa = #[(.int c)] ∧ Z.Warmed39 UU.vm ∧ UU.heap = hE) (fun _ _ _ _ _ => True) (fun _ UU oo UV => ∃ vv LL, oo = .returned vv ∧ Q_tob Z c hE n0 vv UV.heap LL ∧ FrameEnd UU oo UV LL ({ frames := 0, cells := 1, slots := 1, locals := 0 } : Room).cells ({ frames := 0, cells := 1, slots := 1, locals := 0 } : Room).slots) := by
  refine MetFree.of_bodySF (plainFor_of_name pn_java_lang_StringLatin1) hisR ?_
  intro pg ev sb mi gs below me cd s₁ Bd hml0 hPt hKt
  obtain ⟨rfl, hZ, hh⟩ := hPt
  have hx := Bd.exec
  have hby := Bd.bytes
  have hml : cd.maxLocals = 1 := hml0
  have hown : sb.vm.findClass "java/lang/StringLatin1" = some mi.cls := findClass_of_methodNamed Bd.named
  have hnm := (name_of_methodNamed Bd.named Bd.method).1
  have X0 : Stand pg la ev ({ frames := 0, cells := 1, slots := 1, locals := 0 } : Room) sb mi #[(.int c)] below me cd s₁ [] 0 0 := Stand.of_body Bd
  have eE : s₁.heap = hE := by rw [← hh, Bd.state]; rfl
  have N0 := Fr.nil n0
  have pre0 : ∀ tt, Steps pg.tables ev below (s₁.setTop (mkF mi 0 #[.val (.int c)] [])) tt → Steps pg.tables ev below (s₁.setTop (entryFrame mi #[(.int c)] 1)) tt := fun tt kk => castTop (ef_tob mi c) kk
  obtain ⟨T101, h101, k101, X101, e101, E101, A101, st101⟩ := newP (aty := .byte) X0 hx hZ (wd18 hw) eE (g := (mkF mi 1 #[.val (.int c)] [(.int (1 : Int32))])) rfl (hb hby d_jdk_43_method_46_code_1) rfl (by decide) (cap := 1) (by decide) (by decide) (by decide) (by decide)
  obtain ⟨b101, q101⟩ : ∃ z, z = hE.size := ⟨_, rfl⟩
  rw [← q101] at A101 st101
  have f102 : Arv Z h101 b101 k101 .byte (1 : Int32) [(.int (0 : Int32))] (.int (0 : Int32)) := (Arv.new A101 (by decide)).pad (pad_rep [] (.int (0 : Int32)) 1)
  obtain ⟨cl103, Ar103, qq103, Sz103, Nn103, Hh103, Gg103⟩ := id f102
  have hin103 : ¬ ((0 : Int32) < 0 ∨ cl103.slots.size ≤ ((0 : Int32)).toNatClampNeg) := inb_of Sz103 ⟨by decide, by decide⟩
  obtain ⟨T103, h103, X103, e103, W103, st103⟩ := stB X101 hx hZ e101 Ar103 (j := (0 : Int32)) hin103 (g := (mkF mi 7 #[.val (.int c)] [(.int (c.toInt8.toInt32)), (.int (0 : Int32)), (.ref b101), (.ref b101)])) rfl rfl (hb hby d_jdk_43_method_46_code_7)
  have g_b101 : n0 ≤ b101 := Nat.le_trans (Nat.le_trans (Nat.le_of_eq O.1.symm) O.2.1) (Nat.le_of_eq q101.symm)
  have N103 := Fr.snoc X103 N0 g_b101
  have f104 : Arv Z h103 b101 k101 .byte (1 : Int32) [(.int ((c.toInt8.toInt32)).toInt8.toInt32)] (.int (0 : Int32)) := Arv.set Ar103 qq103 Sz103 Nn103 Hh103 Gg103 (fits_nar_byte _) W103 0 rfl (Nat.le_of_ble_eq_true rfl)
  have f105 : Arv Z h103 b101 k101 .byte (1 : Int32) [(.int c.toInt8.toInt32)] (.int (0 : Int32)) := by simpa only [own_i8] using f104
  obtain ⟨fs, hr, hrun, hended, hW, hsame⟩ := X103.leave (v := some (.ref b101)) (fun hq => by rw [Bd.returns] at hq; cases hq)
  refine ⟨_, _, pre0 _ ?_, hrun, hended, _, _, rfl, ?_, ⟨_, rfl⟩, hW, hsame.mono (by decide) (by decide)⟩
  · show Steps pg.tables ev below (s₁.setTop (mkF mi 0 #[.val (.int c)] [])) _
    refine XS.iconst X0.here hx rfl (hb hby d_jdk_43_method_46_code_0) ?_
    show Steps pg.tables ev below (s₁.setTop (mkF mi 1 #[.val (.int c)] [(.int (1 : Int32))])) _
    refine st101 _ ?_
    show Steps pg.tables ev below (T101.setTop (mkF mi 3 #[.val (.int c)] [(.ref b101)])) _
    refine XS.dup X101.here hx rfl (hb hby d_jdk_43_method_46_code_3) rfl rfl ?_
    refine XS.iconst X101.here hx rfl (hb hby d_jdk_43_method_46_code_4) ?_
    refine XS.iloadN X101.here hx rfl (hb hby d_jdk_43_method_46_code_5) rfl ?_
    refine XS.i2b X101.here hx rfl (hb hby d_jdk_43_method_46_code_6) rfl ?_
    show Steps pg.tables ev below (T101.setTop (mkF mi 7 #[.val (.int c)] [(.int (c.toInt8.toInt32)), (.int (0 : Int32)), (.ref b101), (.ref b101)])) _
    refine st103 _ ?_
    show Steps pg.tables ev below (T103.setTop (mkF mi 8 #[.val (.int c)] [(.ref b101)])) _
    jvm_step X103.here [X103.here.top, hx, (hb hby d_jdk_43_method_46_code_8), X103.method', Bd.returns, Value.isRef, FieldType.isReference]
    first | (intro acts; rw [hr _ acts rfl rfl rfl]) | rw [hr _ _ rfl rfl rfl]
    exact Steps.refl _
  · show Q_tob Z c hE n0 _ T103.heap _
    rw [e103]
    exact ⟨b101, k101, rfl, N103, (((Keep.refl hE []).ext E101).trans (Keep.of_wr W103) (allS (Or.inr (Nat.le_of_eq q101.symm)) all0)), (Nat.le_of_eq q101.symm), f105⟩
theorem d_jdk_42_method_139_code_0 : decode jdk_42_method_139_code 0 = .ok (.getstatic 38, 3) := by decide +kernel
theorem d_jdk_42_method_139_code_3 : decode jdk_42_method_139_code 3 = .ok (.ifCond .eq 23, 3) := by decide +kernel
theorem d_jdk_42_method_139_code_6 : decode jdk_42_method_139_code 6 = .ok (.iload_n 0, 1) := by decide +kernel
theorem d_jdk_42_method_139_code_7 : decode jdk_42_method_139_code 7 = .ok (.invokestatic 1015, 3) := by decide +kernel
theorem d_jdk_42_method_139_code_10 : decode jdk_42_method_139_code 10 = .ok (.ifCond .eq 16, 3) := by decide +kernel
theorem d_jdk_42_method_139_code_13 : decode jdk_42_method_139_code 13 = .ok (.new 10, 3) := by decide +kernel
theorem d_jdk_42_method_139_code_16 : decode jdk_42_method_139_code 16 = .ok (.dup, 1) := by decide +kernel
theorem d_jdk_42_method_139_code_17 : decode jdk_42_method_139_code 17 = .ok (.iload_n 0, 1) := by decide +kernel
theorem d_jdk_42_method_139_code_18 : decode jdk_42_method_139_code 18 = .ok (.invokestatic 1018, 3) := by decide +kernel
theorem d_jdk_42_method_139_code_21 : decode jdk_42_method_139_code 21 = .ok (.iconst 0, 1) := by decide +kernel
theorem d_jdk_42_method_139_code_22 : decode jdk_42_method_139_code 22 = .ok (.invokespecial 209, 3) := by decide +kernel
theorem d_jdk_42_method_139_code_25 : decode jdk_42_method_139_code 25 = .ok (.areturn, 1) := by decide +kernel
theorem pd_0 : parseMethodDescriptor "(C)Z" = some ⟨[.char], some .boolean⟩ := by decide +kernel
theorem pd_1 : parseMethodDescriptor "(C)[B" = some ⟨[.char], some (.array .byte)⟩ := by decide +kernel
theorem pd_2 : parseMethodDescriptor "([BB)V" = some ⟨[(.array .byte), .byte], none⟩ := by decide +kernel
theorem ef_vof (mi : MethodId) (c : Int32) : entryFrame mi #[(.int c)] 1 = mkF mi 0 #[.val (.int c)] [] := by first | (simp [entryFrame, mkF, argsToLocals, Value.category]; done) | rfl
def Q_vof (Z : State) (c : Int32) (zc : Int32) (hE : Heap) (n0 : Nat) (vv : Option Value) (hh : Heap) (LL : List Loc) : Prop := ∃ x : Addr, ∃ t : Addr, (vv = some (.ref x)) ∧ (Fr n0 LL) ∧ (Keep hE hh []) ∧ (hE.size ≤ x) ∧ (hE.size ≤ t) ∧ (LStr Z hh x t ([c] : List Int32))
set_option maxRecDepth 65536 in
set_option maxHeartbeats 40000000 in
theorem rm_vof (la : Launch) (Z : State) (a0 : Array Value) (hw : ∀ d ∈ tables_1, d.before a0 Z = true) (ws : List Jvm.Cond) (c : Int32) (zc : Int32) (hE : Heap) (n0 : Nat) (O : Old Z n0 hE) (D0_ : Sta Z Z.heap "java/lang/String" "COMPACT_STRINGS" "Z" (.int zc)) (hbb : ¬ ((255 : Int32) < c)) (hn : ¬ (c < (0 : Int32))) (hzc : ¬ (zc = (0 : Int32))) :
    MetFree la mn4 (head1 (Jvm.Cond.code mn4 jdk_42_method_139_code 1 (some (.object "java/lang/String")) :: ws) ({ frames := 2, cells := 2, slots := 5, locals := 27 } : Room)) (fun aa UU => aa = #[(.int c)] ∧ Z.Warmed39 UU.vm ∧ UU.heap = hE) (fun _ _ _ _ _ => True) (fun _ UU oo UV => ∃ vv LL, oo = .returned vv ∧ Q_vof Z c zc hE n0 vv UV.heap LL ∧ FrameEnd UU oo UV LL ({ frames := 2, cells := 2, slots := 5, locals := 27 } : Room).cells ({ frames := 2, cells := 2, slots := 5, locals := 27 } : Room).slots) := by
  refine MetFree.of_bodySF (plainFor_of_name pn_java_lang_String) hisR ?_
  intro pg ev sb mi gs below me cd s₁ Bd hml0 hPt hKt
  obtain ⟨rfl, hZ, hh⟩ := hPt
  have hx := Bd.exec
  have hby := Bd.bytes
  have hml : cd.maxLocals = 1 := hml0
  have hown : sb.vm.findClass "java/lang/String" = some mi.cls := findClass_of_methodNamed Bd.named
  have hnm := (name_of_methodNamed Bd.named Bd.method).1
  have X0 : Stand pg la ev ({ frames := 2, cells := 2, slots := 5, locals := 27 } : Room) sb mi #[(.int c)] below me cd s₁ [] 0 0 := Stand.of_body Bd
  have eE : s₁.heap = hE := by rw [← hh, Bd.state]; rfl
  have N0 := Fr.nil n0
  have pre0 : ∀ tt, Steps pg.tables ev below (s₁.setTop (mkF mi 0 #[.val (.int c)] [])) tt → Steps pg.tables ev below (s₁.setTop (entryFrame mi #[(.int c)] 1)) tt := fun tt kk => castTop (ef_vof mi c) kk
  obtain ⟨T101, X101, e101, st101⟩ := getS2 X0 hx hZ hown (host := "") (Or.inl (wd8 hw)) Via.refl eE (D0_.ext O.2) (g := (mkF mi 0 #[.val (.int c)] [])) rfl (hb hby d_jdk_42_method_139_code_0)
  obtain ⟨v102, _, ⟨T102, L102, k102, n102⟩, -, X102, ⟨Lc102, hQ102, l102, y102, z102⟩, st102⟩ := Jvm.LawKit.callS X101 hx (y := mn2) hown (mvT hZ (wd9 hw)) (mvT hZ (wd10 hw)) (mvT hZ (wd11 hw)) (mvT hZ (wd12 hw)) (by decide) (backOf (W := 0) (rm_cenc la Z a0 hw [] c hE n0 O (hbb : ¬ ((255 : Int32) < c))) hZ (wd12 hw) (wd11 hw) (by decide) (by decide)) (g := (mkF mi 7 #[.val (.int c)] [(.int c)])) rfl (by rw [hml]; rfl) (argsL := [(.int c)]) (rest := []) (lenOf pd_0 rfl) rfl (by show 2 * 0 + _ ≤ _; exact Nat.le_of_eq rfl) (hb hby d_jdk_42_method_139_code_7) (fun _ _ => ⟨rfl, e101, (by decide : 0 + 0 ≤ _), (by decide : 0 + 0 ≤ _)⟩)
  dsimp only [Pt.U, Pt.locs, Pt.cells, Pt.slots] at X102 l102 y102 z102 st102 hQ102
  subst l102 y102 z102
  obtain ⟨rfl, Nq102, ek102⟩ := hQ102
  have N102 := Fr.app N0 Nq102
  obtain ⟨T103, h103, X103, e103, E103, A103, D103, -, st103⟩ := newO X102 hx hZ hown (wd13 hw) (wd14 hw) (wd6 hw) ek102 (g := (mkF mi 13 #[.val (.int c)] [])) rfl (hb hby d_jdk_42_method_139_code_13) (by decide) (by decide)
  obtain ⟨b103, q103⟩ : ∃ z, z = hE.size := ⟨_, rfl⟩
  rw [← q103] at A103 D103 st103
  have f104 : Fld Z h103 b103 "java/lang/String" "value" "[B" .null := D103 (Or.inr (wd27 hw)) (ty := (.array .byte)) (by decide)
  have f105 : Fld Z h103 b103 "java/lang/String" "coder" "B" (.int (0 : Int32)) := D103 (Or.inr (wd29 hw)) (ty := .byte) (by decide)
  have O106 : Old Z n0 h103 := (O.ext E103)
  obtain ⟨v107, _, ⟨T107, L107, k107, n107⟩, -, X107, ⟨Lc107, hQ107, l107, y107, z107⟩, st107⟩ := Jvm.LawKit.callS X103 hx (y := mn3) hown (mvT hZ (wd15 hw)) (mvT hZ (wd16 hw)) (mvT hZ (wd11 hw)) (mvT hZ (wd17 hw)) (by decide) (backOf (W := 2) (rm_tob la Z a0 hw [] c h103 n0 O106) hZ (wd17 hw) (wd11 hw) (by decide) (by decide)) (g := (mkF mi 18 #[.val (.int c)] [(.int c), (.ref b103), (.ref b103)])) rfl (by rw [hml]; rfl) (argsL := [(.int c)]) (rest := [(.ref b103), (.ref b103)]) (lenOf pd_1 rfl) rfl (by show 2 * 0 + _ ≤ _; exact Nat.le_of_eq rfl) (hb hby d_jdk_42_method_139_code_18) (fun _ _ => ⟨rfl, e103, (by decide : 1 + 1 ≤ _), (by decide : 4 + 1 ≤ _)⟩)
  dsimp only [Pt.U, Pt.locs, Pt.cells, Pt.slots] at X107 l107 y107 z107 st107 hQ107
  subst l107 y107 z107
  obtain ⟨t_107, kt_107, rfl, Nq107, Kq107, fr_t_107, r107_0⟩ := hQ107
  have N107 := Fr.app N102 Nq107
  have O108 : Old Z n0 T107.heap := (O106.keep Kq107 all0)
  have f109 : Exa Z T107.heap b103 "java/lang/String" := (A103.keep Kq107)
  have f110 : Fld Z T107.heap b103 "java/lang/String" "value" "[B" .null := (f104.keep Kq107 nin0)
  have f111 : Fld Z T107.heap b103 "java/lang/String" "coder" "B" (.int (0 : Int32)) := (f105.keep Kq107 nin0)
  have g_b103 : n0 ≤ b103 := Nat.le_trans (Nat.le_trans (Nat.le_of_eq O.1.symm) O.2.1) (Nat.le_of_eq q103.symm)
  obtain ⟨v112, _, ⟨T112, L112, k112, n112⟩, -, X112, ⟨Lc112, hQ112, l112, y112, z112⟩, st112⟩ := X107.specialBack hx (y := mn1) rfl hown (mvT hZ (wd19 hw)) (mvT hZ (wd20 hw)) (mvT hZ (wd22 hw)) (by decide) (backOf (W := 1) (rm_sbb la Z a0 hw [] b103 t_107 T107.heap n0 O108 f109 f110 f111 g_b103) hZ (wd22 hw) (wd6 hw) (by decide) (by decide)) (g := (mkF mi 22 #[.val (.int c)] [(.int (0 : Int32)), (.ref t_107), (.ref b103), (.ref b103)])) rfl (by rw [hml]; rfl) (Steps.refl _) (a := b103) (argsL := [(.ref t_107), (.int (0 : Int32))]) (rest := [(.ref b103)]) (lenOf pd_2 rfl) rfl (by show 2 * 0 + _ ≤ _; exact Nat.le_of_eq rfl) (hb hby d_jdk_42_method_139_code_22) (fun _ _ => ⟨rfl, rfl, (by decide : 2 + 0 ≤ _), (by decide : 5 + 0 ≤ _)⟩)
  dsimp only [Pt.U, Pt.locs, Pt.cells, Pt.slots] at X112 l112 y112 z112 st112 hQ112
  subst l112 y112 z112
  obtain ⟨rfl, Nq112, Kq112, r112_0, r112_1, r112_2⟩ := hQ112
  have N112 := Fr.app N107 Nq112
  have ne_b103_t_107 : b103 ≠ t_107 := Nat.ne_of_lt (Nat.lt_of_lt_of_le A103.lt (Nat.le_trans (Nat.le_refl _) fr_t_107))
  have f113 : Arv Z T112.heap t_107 kt_107 .byte (1 : Int32) [(.int c.toInt8.toInt32)] (.int (0 : Int32)) := (r107_0.keep Kq112 (ninS (Ne.symm ne_b103_t_107) nin0))
  have s114 : LStr Z T112.heap b103 t_107 ([c] : List Int32) := ⟨r112_0, r112_1, r112_2, ⟨_, f113⟩, (by intro z hz; cases List.mem_singleton.mp hz; exact ⟨hn, hbb⟩), (Nat.le_of_ble_eq_true rfl)⟩
  obtain ⟨fs, hr, hrun, hended, hW, hsame⟩ := X112.leave (v := some (.ref b103)) (fun hq => by rw [Bd.returns] at hq; cases hq)
  refine ⟨_, _, pre0 _ ?_, hrun, hended, _, _, rfl, ?_, ⟨_, rfl⟩, hW, hsame.mono (by decide) (by decide)⟩
  · show Steps pg.tables ev below (s₁.setTop (mkF mi 0 #[.val (.int c)] [])) _
    refine st101 _ ?_
    show Steps pg.tables ev below (T101.setTop (mkF mi 3 #[.val (.int c)] [(.int zc)])) _
    refine XS.ifNo X101.here hx rfl (hb hby d_jdk_42_method_139_code_3) rfl ((if0 _ _).trans (feq hzc).1) ?_
    refine XS.iloadN X101.here hx rfl (hb hby d_jdk_42_method_139_code_6) rfl ?_
    show Steps pg.tables ev below (T101.setTop (mkF mi 7 #[.val (.int c)] [(.int c)])) _
    refine st102 _ ?_
    show Steps pg.tables ev below (T102.setTop (mkF mi 10 #[.val (.int c)] [(.int (1 : Int32))])) _
    refine XS.ifNo X102.here hx rfl (hb hby d_jdk_42_method_139_code_10) rfl ((if0 _ _).trans (feq (by decide : ¬ ((1 : Int32) = (0 : Int32)))).1) ?_
    show Steps pg.tables ev below (T102.setTop (mkF mi 13 #[.val (.int c)] [])) _
    refine st103 _ ?_
    show Steps pg.tables ev below (T103.setTop (mkF mi 16 #[.val (.int c)] [(.ref b103)])) _
    refine XS.dup X103.here hx rfl (hb hby d_jdk_42_method_139_code_16) rfl rfl ?_
    refine XS.iloadN X103.here hx rfl (hb hby d_jdk_42_method_139_code_17) rfl ?_
    show Steps pg.tables ev below (T103.setTop (mkF mi 18 #[.val (.int c)] [(.int c), (.ref b103), (.ref b103)])) _
    refine st107 _ ?_
    show Steps pg.tables ev below (T107.setTop (mkF mi 21 #[.val (.int c)] [(.ref t_107), (.ref b103), (.ref b103)])) _
    refine XS.iconst X107.here hx rfl (hb hby d_jdk_42_method_139_code_21) ?_
    show Steps pg.tables ev below (T107.setTop (mkF mi 22 #[.val (.int c)] [(.int (0 : Int32)), (.ref t_107), (.ref b103), (.ref b103)])) _
    refine st112.trans ?_
    show Steps pg.tables ev below (T112.setTop (mkF mi 25 #[.val (.int c)] [(.ref b103)])) _
    jvm_step X112.here [X112.here.top, hx, (hb hby d_jdk_42_method_139_code_25), X112.method', Bd.returns, Value.isRef, FieldType.isReference]
    first | (intro acts; rw [hr _ acts rfl rfl rfl]) | rw [hr _ _ rfl rfl rfl]
    exact Steps.refl _
  · show Q_vof Z c zc hE n0 _ T112.heap _
    exact ⟨b103, t_107, rfl, N112, ((((Keep.refl hE []).ext E103).trans Kq107 all0).trans Kq112 (allS (Or.inr (Nat.le_of_eq q103.symm)) all0)), (Nat.le_of_eq q103.symm), (Nat.le_trans E103.1 fr_t_107), s114⟩
theorem d_jdk_30_method_1_code_0 : decode jdk_30_method_1_code 0 = .ok (.aload_n 0, 1) := by decide +kernel
theorem d_jdk_30_method_1_code_1 : decode jdk_30_method_1_code 1 = .ok (.invokespecial 1, 3) := by decide +kernel
theorem d_jdk_30_method_1_code_4 : decode jdk_30_method_1_code 4 = .ok (.return_, 1) := by decide +kernel
theorem pn_java_lang_Record : plainName "java/lang/Record" = true := by first | (simp [plainName, overriddenIn]; done) | decide +kernel
theorem ef_rec (mi : MethodId) (a : Addr) : entryFrame mi #[(.ref a)] 1 = mkF mi 0 #[.val (.ref a)] [] := by first | (simp [entryFrame, mkF, argsToLocals, Value.category]; done) | rfl
def Q_rec (Z : State) (a : Addr) (hE : Heap) (n0 : Nat) (vv : Option Value) (hh : Heap) (LL : List Loc) : Prop := (vv = none) ∧ (Fr n0 LL) ∧ (hh = hE)
set_option maxRecDepth 65536 in
set_option maxHeartbeats 40000000 in
theorem rm_rec (la : Launch) (Z : State) (a0 : Array Value) (hw : ∀ d ∈ tables_1, d.before a0 Z = true) (ws : List Jvm.Cond) (a : Addr) (hE : Heap) (n0 : Nat) (O : Old Z n0 hE) :
    MetFree la mn5 (head1 (Jvm.Cond.code mn5 jdk_30_method_1_code 1 none :: ws) ({ frames := 1, cells := 0, slots := 0, locals := 12 } : Room)) (fun aa UU => aa = #[(.ref a)] ∧ Z.Warmed39 UU.vm ∧ UU.heap = hE) (fun _ _ _ _ _ => True) (fun _ UU oo UV => ∃ vv LL, oo = .returned vv ∧ Q_rec Z a hE n0 vv UV.heap LL ∧ FrameEnd UU oo UV LL ({ frames := 1, cells := 0, slots := 0, locals := 12 } : Room).cells ({ frames := 1, cells := 0, slots := 0, locals := 12 } : Room).slots) := by
  refine MetFree.of_bodySF (plainFor_of_name pn_java_lang_Record) hisR ?_
  intro pg ev sb mi gs below me cd s₁ Bd hml0 hPt hKt
  obtain ⟨rfl, hZ, hh⟩ := hPt
  have hx := Bd.exec
  have hby := Bd.bytes
  have hml : cd.maxLocals = 1 := hml0
  have hown : sb.vm.findClass "java/lang/Record" = some mi.cls := findClass_of_methodNamed Bd.named
  have hnm := (name_of_methodNamed Bd.named Bd.method).1
  have X0 : Stand pg la ev ({ frames := 1, cells := 0, slots := 0, locals := 12 } : Room) sb mi #[(.ref a)] below me cd s₁ [] 0 0 := Stand.of_body Bd
  have eE : s₁.heap = hE := by rw [← hh, Bd.state]; rfl
  have N0 := Fr.nil n0
  have pre0 : ∀ tt, Steps pg.tables ev below (s₁.setTop (mkF mi 0 #[.val (.ref a)] [])) tt → Steps pg.tables ev below (s₁.setTop (entryFrame mi #[(.ref a)] 1)) tt := fun tt kk => castTop (ef_rec mi a) kk
  obtain ⟨T101, X101, e101, st101⟩ := initO X0 hx hZ hown (wd41 hw) (wd24 hw) (wd25 hw) eE (g := (mkF mi 1 #[.val (.ref a)] [(.ref a)])) rfl (by rw [hml]; rfl) rfl (hb hby d_jdk_30_method_1_code_1) (by decide) (W := 0) (by show 2 * 0 + _ ≤ _; exact Nat.le_of_eq rfl) (by decide)
  obtain ⟨fs, hr, hrun, hended, hW, hsame⟩ := X101.leave (v := none) (fun _ => rfl)
  refine ⟨_, _, pre0 _ ?_, hrun, hended, _, _, rfl, ?_, ⟨_, rfl⟩, hW, hsame.mono (by decide) (by decide)⟩
  · show Steps pg.tables ev below (s₁.setTop (mkF mi 0 #[.val (.ref a)] [])) _
    refine XS.aloadN X0.here hx rfl (hb hby d_jdk_30_method_1_code_0) rfl rfl ?_
    show Steps pg.tables ev below (s₁.setTop (mkF mi 1 #[.val (.ref a)] [(.ref a)])) _
    refine st101 _ ?_
    show Steps pg.tables ev below (T101.setTop (mkF mi 4 #[.val (.ref a)] [])) _
    exact X101.returnOut hx Bd.returns (hb hby d_jdk_30_method_1_code_4) hr
  · show Q_rec Z a hE n0 _ T101.heap _
    rw [e101]
    exact ⟨rfl, N0, rfl⟩
theorem d_jdk_31_method_11_code_0 : decode jdk_31_method_11_code 0 = .ok (.aload_n 0, 1) := by decide +kernel
theorem d_jdk_31_method_11_code_1 : decode jdk_31_method_11_code 1 = .ok (.ifnonnull 12, 3) := by decide +kernel
theorem d_jdk_31_method_11_code_13 : decode jdk_31_method_11_code 13 = .ok (.aload_n 0, 1) := by decide +kernel
theorem d_jdk_31_method_11_code_14 : decode jdk_31_method_11_code 14 = .ok (.areturn, 1) := by decide +kernel
theorem pn_java_util_Objects : plainName "java/util/Objects" = true := by first | (simp [plainName, overriddenIn]; done) | decide +kernel
theorem ef_rnn2 (mi : MethodId) (a : Addr) (b : Addr) : entryFrame mi #[(.ref a), (.ref b)] 2 = mkF mi 0 #[.val (.ref a), .val (.ref b)] [] := by first | (simp [entryFrame, mkF, argsToLocals, Value.category]; done) | rfl
def Q_rnn2 (Z : State) (a : Addr) (b : Addr) (hE : Heap) (n0 : Nat) (vv : Option Value) (hh : Heap) (LL : List Loc) : Prop := (vv = some (.ref a)) ∧ (Fr n0 LL) ∧ (hh = hE)
set_option maxRecDepth 65536 in
set_option maxHeartbeats 40000000 in
theorem rm_rnn2 (la : Launch) (Z : State) (a0 : Array Value) (hw : ∀ d ∈ tables_1, d.before a0 Z = true) (ws : List Jvm.Cond) (a : Addr) (b : Addr) (hE : Heap) (n0 : Nat) (O : Old Z n0 hE) :
    MetFree la mn6 (head1 (Jvm.Cond.code mn6 jdk_31_method_11_code 2 (some (.object "java/lang/Object")) :: ws) ({ frames := 0, cells := 0, slots := 0, locals := 0 } : Room)) (fun aa UU => aa = #[(.ref a), (.ref b)] ∧ Z.Warmed39 UU.vm ∧ UU.heap = hE) (fun _ _ _ _ _ => True) (fun _ UU oo UV => ∃ vv LL, oo = .returned vv ∧ Q_rnn2 Z a b hE n0 vv UV.heap LL ∧ FrameEnd UU oo UV LL ({ frames := 0, cells := 0, slots := 0, locals := 0 } : Room).cells ({ frames := 0, cells := 0, slots := 0, locals := 0 } : Room).slots) := by
  refine MetFree.of_bodySF (plainFor_of_name pn_java_util_Objects) hisR ?_
  intro pg ev sb mi gs below me cd s₁ Bd hml0 hPt hKt
  obtain ⟨rfl, hZ, hh⟩ := hPt
  have hx := Bd.exec
  have hby := Bd.bytes
  have hml : cd.maxLocals = 2 := hml0
  have hown : sb.vm.findClass "java/util/Objects" = some mi.cls := findClass_of_methodNamed Bd.named
  have hnm := (name_of_methodNamed Bd.named Bd.method).1
  have X0 : Stand pg la ev ({ frames := 0, cells := 0, slots := 0, locals := 0 } : Room) sb mi #[(.ref a), (.ref b)] below me cd s₁ [] 0 0 := Stand.of_body Bd
  have eE : s₁.heap = hE := by rw [← hh, Bd.state]; rfl
  have N0 := Fr.nil n0
  have pre0 : ∀ tt, Steps pg.tables ev below (s₁.setTop (mkF mi 0 #[.val (.ref a), .val (.ref b)] [])) tt → Steps pg.tables ev below (s₁.setTop (entryFrame mi #[(.ref a), (.ref b)] 2)) tt := fun tt kk => castTop (ef_rnn2 mi a b) kk
  obtain ⟨fs, hr, hrun, hended, hW, hsame⟩ := X0.leave (v := some (.ref a)) (fun hq => by rw [Bd.returns] at hq; cases hq)
  refine ⟨_, _, pre0 _ ?_, hrun, hended, _, _, rfl, ?_, ⟨_, rfl⟩, hW, hsame.mono (by decide) (by decide)⟩
  · show Steps pg.tables ev below (s₁.setTop (mkF mi 0 #[.val (.ref a), .val (.ref b)] [])) _
    refine XS.aloadN X0.here hx rfl (hb hby d_jdk_31_method_11_code_0) rfl rfl ?_
    refine XS.ifnonnullYes X0.here hx rfl (pc0 := 1) (pc' := 13) rfl (hb hby d_jdk_31_method_11_code_1) rfl (by decide) (by decide) ?_
    refine XS.aloadN X0.here hx rfl (hb hby d_jdk_31_method_11_code_13) rfl rfl ?_
    show Steps pg.tables ev below (s₁.setTop (mkF mi 14 #[.val (.ref a), .val (.ref b)] [(.ref a)])) _
    jvm_step X0.here [X0.here.top, hx, (hb hby d_jdk_31_method_11_code_14), X0.method', Bd.returns, Value.isRef, FieldType.isReference]
    first | (intro acts; rw [hr _ acts rfl rfl rfl]) | rw [hr _ _ rfl rfl rfl]
    exact Steps.refl _
  · show Q_rnn2 Z a b hE n0 _ s₁.heap _
    rw [eE]
    exact ⟨rfl, N0, rfl⟩
theorem d_jdk_42_method_126_code_0 : decode jdk_42_method_126_code 0 = .ok (.aload_n 0, 1) := by decide +kernel
theorem d_jdk_42_method_126_code_1 : decode jdk_42_method_126_code 1 = .ok (.areturn, 1) := by decide +kernel
theorem ef_sts (mi : MethodId) (x : Addr) : entryFrame mi #[(.ref x)] 1 = mkF mi 0 #[.val (.ref x)] [] := by first | (simp [entryFrame, mkF, argsToLocals, Value.category]; done) | rfl
def Q_sts (Z : State) (x : Addr) (hE : Heap) (n0 : Nat) (vv : Option Value) (hh : Heap) (LL : List Loc) : Prop := (vv = some (.ref x)) ∧ (Fr n0 LL) ∧ (hh = hE)
set_option maxRecDepth 65536 in
set_option maxHeartbeats 40000000 in
theorem rm_sts (la : Launch) (Z : State) (a0 : Array Value) (hw : ∀ d ∈ tables_1, d.before a0 Z = true) (ws : List Jvm.Cond) (x : Addr) (hE : Heap) (n0 : Nat) (O : Old Z n0 hE) :
    MetFree la mn7 (head1 (Jvm.Cond.code mn7 jdk_42_method_126_code 1 (some (.object "java/lang/String")) :: ws) ({ frames := 0, cells := 0, slots := 0, locals := 0 } : Room)) (fun aa UU => aa = #[(.ref x)] ∧ Z.Warmed39 UU.vm ∧ UU.heap = hE) (fun _ _ _ _ _ => True) (fun _ UU oo UV => ∃ vv LL, oo = .returned vv ∧ Q_sts Z x hE n0 vv UV.heap LL ∧ FrameEnd UU oo UV LL ({ frames := 0, cells := 0, slots := 0, locals := 0 } : Room).cells ({ frames := 0, cells := 0, slots := 0, locals := 0 } : Room).slots) := by
  refine MetFree.of_bodySF (plainFor_of_name pn_java_lang_String) hisR ?_
  intro pg ev sb mi gs below me cd s₁ Bd hml0 hPt hKt
  obtain ⟨rfl, hZ, hh⟩ := hPt
  have hx := Bd.exec
  have hby := Bd.bytes
  have hml : cd.maxLocals = 1 := hml0
  have hown : sb.vm.findClass "java/lang/String" = some mi.cls := findClass_of_methodNamed Bd.named
  have hnm := (name_of_methodNamed Bd.named Bd.method).1
  have X0 : Stand pg la ev ({ frames := 0, cells := 0, slots := 0, locals := 0 } : Room) sb mi #[(.ref x)] below me cd s₁ [] 0 0 := Stand.of_body Bd
  have eE : s₁.heap = hE := by rw [← hh, Bd.state]; rfl
  have N0 := Fr.nil n0
  have pre0 : ∀ tt, Steps pg.tables ev below (s₁.setTop (mkF mi 0 #[.val (.ref x)] [])) tt → Steps pg.tables ev below (s₁.setTop (entryFrame mi #[(.ref x)] 1)) tt := fun tt kk => castTop (ef_sts mi x) kk
  obtain ⟨fs, hr, hrun, hended, hW, hsame⟩ := X0.leave (v := some (.ref x)) (fun hq => by rw [Bd.returns] at hq; cases hq)
  refine ⟨_, _, pre0 _ ?_, hrun, hended, _, _, rfl, ?_, ⟨_, rfl⟩, hW, hsame.mono (by decide) (by decide)⟩
  · show Steps pg.tables ev below (s₁.setTop (mkF mi 0 #[.val (.ref x)] [])) _
    refine XS.aloadN X0.here hx rfl (hb hby d_jdk_42_method_126_code_0) rfl rfl ?_
    show Steps pg.tables ev below (s₁.setTop (mkF mi 1 #[.val (.ref x)] [(.ref x)])) _
    jvm_step X0.here [X0.here.top, hx, (hb hby d_jdk_42_method_126_code_1), X0.method', Bd.returns, Value.isRef, FieldType.isReference]
    first | (intro acts; rw [hr _ acts rfl rfl rfl]) | rw [hr _ _ rfl rfl rfl]
    exact Steps.refl _
  · show Q_sts Z x hE n0 _ s₁.heap _
    rw [eE]
    exact ⟨rfl, N0, rfl⟩
theorem d_jdk_42_method_152_code_0 : decode jdk_42_method_152_code 0 = .ok (.getstatic 38, 3) := by decide +kernel
theorem d_jdk_42_method_152_code_3 : decode jdk_42_method_152_code 3 = .ok (.ifCond .eq 10, 3) := by decide +kernel
theorem d_jdk_42_method_152_code_6 : decode jdk_42_method_152_code 6 = .ok (.aload_n 0, 1) := by decide +kernel
theorem d_jdk_42_method_152_code_7 : decode jdk_42_method_152_code 7 = .ok (.getfield 15, 3) := by decide +kernel
theorem d_jdk_42_method_152_code_10 : decode jdk_42_method_152_code 10 = .ok (.goto 4, 3) := by decide +kernel
theorem d_jdk_42_method_152_code_14 : decode jdk_42_method_152_code 14 = .ok (.ireturn, 1) := by decide +kernel
theorem ef_coder (mi : MethodId) (x : Addr) : entryFrame mi #[(.ref x)] 1 = mkF mi 0 #[.val (.ref x)] [] := by first | (simp [entryFrame, mkF, argsToLocals, Value.category]; done) | rfl
def Q_coder (Z : State) (x : Addr) (zc : Int32) (hE : Heap) (n0 : Nat) (vv : Option Value) (hh : Heap) (LL : List Loc) : Prop := (vv = some (.int (0 : Int32))) ∧ (Fr n0 LL) ∧ (hh = hE)
set_option maxRecDepth 65536 in
set_option maxHeartbeats 40000000 in
theorem rm_coder (la : Launch) (Z : State) (a0 : Array Value) (hw : ∀ d ∈ tables_1, d.before a0 Z = true) (ws : List Jvm.Cond) (x : Addr) (zc : Int32) (hE : Heap) (n0 : Nat) (O : Old Z n0 hE) (P0_ : Fld Z hE x "java/lang/String" "coder" "B" (.int (0 : Int32))) (D0_ : Sta Z Z.heap "java/lang/String" "COMPACT_STRINGS" "Z" (.int zc)) (hzc : ¬ (zc = (0 : Int32))) :
    MetFree la mn8 (head1 (Jvm.Cond.code mn8 jdk_42_method_152_code 1 (some .byte) :: ws) ({ frames := 0, cells := 0, slots := 0, locals := 0 } : Room)) (fun aa UU => aa = #[(.ref x)] ∧ Z.Warmed39 UU.vm ∧ UU.heap = hE) (fun _ _ _ _ _ => True) (fun _ UU oo UV => ∃ vv LL, oo = .returned vv ∧ Q_coder Z x zc hE n0 vv UV.heap LL ∧ FrameEnd UU oo UV LL ({ frames := 0, cells := 0, slots := 0, locals := 0 } : Room).cells ({ frames := 0, cells := 0, slots := 0, locals := 0 } : Room).slots) := by
  refine MetFree.of_bodySF (plainFor_of_name pn_java_lang_String) hisR ?_
  intro pg ev sb mi gs below me cd s₁ Bd hml0 hPt hKt
  obtain ⟨rfl, hZ, hh⟩ := hPt
  have hx := Bd.exec
  have hby := Bd.bytes
  have hml : cd.maxLocals = 1 := hml0
  have hown : sb.vm.findClass "java/lang/String" = some mi.cls := findClass_of_methodNamed Bd.named
  have hnm := (name_of_methodNamed Bd.named Bd.method).1
  have X0 : Stand pg la ev ({ frames := 0, cells := 0, slots := 0, locals := 0 } : Room) sb mi #[(.ref x)] below me cd s₁ [] 0 0 := Stand.of_body Bd
  have eE : s₁.heap = hE := by rw [← hh, Bd.state]; rfl
  have N0 := Fr.nil n0
  have pre0 : ∀ tt, Steps pg.tables ev below (s₁.setTop (mkF mi 0 #[.val (.ref x)] [])) tt → Steps pg.tables ev below (s₁.setTop (entryFrame mi #[(.ref x)] 1)) tt := fun tt kk => castTop (ef_coder mi x) kk
  obtain ⟨T101, X101, e101, st101⟩ := getS2 X0 hx hZ hown (host := "") (Or.inl (wd8 hw)) Via.refl eE (D0_.ext O.2) (g := (mkF mi 0 #[.val (.ref x)] [])) rfl (hb hby d_jdk_42_method_152_code_0)
  obtain ⟨T102, X102, e102, st102⟩ := getF X101 hx hZ hown (host := "") (Or.inl (wd28 hw)) Via.refl e101 P0_ (g := (mkF mi 7 #[.val (.ref x)] [(.ref x)])) rfl rfl (hb hby d_jdk_42_method_152_code_7)
  obtain ⟨fs, hr, hrun, hended, hW, hsame⟩ := X102.leave (v := some (.int (0 : Int32))) (fun hq => by rw [Bd.returns] at hq; cases hq)
  refine ⟨_, _, pre0 _ ?_, hrun, hended, _, _, rfl, ?_, ⟨_, rfl⟩, hW, hsame.mono (by decide) (by decide)⟩
  · show Steps pg.tables ev below (s₁.setTop (mkF mi 0 #[.val (.ref x)] [])) _
    refine st101 _ ?_
    show Steps pg.tables ev below (T101.setTop (mkF mi 3 #[.val (.ref x)] [(.int zc)])) _
    refine XS.ifNo X101.here hx rfl (hb hby d_jdk_42_method_152_code_3) rfl ((if0 _ _).trans (feq hzc).1) ?_
    refine XS.aloadN X101.here hx rfl (hb hby d_jdk_42_method_152_code_6) rfl rfl ?_
    show Steps pg.tables ev below (T101.setTop (mkF mi 7 #[.val (.ref x)] [(.ref x)])) _
    refine st102 _ ?_
    show Steps pg.tables ev below (T102.setTop (mkF mi 10 #[.val (.ref x)] [(.int (0 : Int32))])) _
    refine XS.goto X102.here hx rfl (pc0 := 10) (pc' := 14) rfl (hb hby d_jdk_42_method_152_code_10) (by decide) (by decide) ?_
    show Steps pg.tables ev below (T102.setTop (mkF mi 14 #[.val (.ref x)] [(.int (0 : Int32))])) _
    exact retN X102 hx (t := .byte) Bd.returns (by simp) (hb hby d_jdk_42_method_152_code_14) hr
  · show Q_coder Z x zc hE n0 _ T102.heap _
    rw [e102]
    exact ⟨rfl, N0, rfl⟩
theorem d_jdk_42_method_154_code_0 : decode jdk_42_method_154_code 0 = .ok (.getstatic 38, 3) := by decide +kernel
theorem d_jdk_42_method_154_code_3 : decode jdk_42_method_154_code 3 = .ok (.ifCond .eq 14, 3) := by decide +kernel
theorem d_jdk_42_method_154_code_6 : decode jdk_42_method_154_code 6 = .ok (.aload_n 0, 1) := by decide +kernel
theorem d_jdk_42_method_154_code_7 : decode jdk_42_method_154_code 7 = .ok (.getfield 15, 3) := by decide +kernel
theorem d_jdk_42_method_154_code_10 : decode jdk_42_method_154_code 10 = .ok (.ifCond .ne 7, 3) := by decide +kernel
theorem d_jdk_42_method_154_code_13 : decode jdk_42_method_154_code 13 = .ok (.iconst 1, 1) := by decide +kernel
theorem d_jdk_42_method_154_code_14 : decode jdk_42_method_154_code 14 = .ok (.goto 4, 3) := by decide +kernel
theorem d_jdk_42_method_154_code_18 : decode jdk_42_method_154_code 18 = .ok (.ireturn, 1) := by decide +kernel
theorem ef_isl1 (mi : MethodId) (x : Addr) : entryFrame mi #[(.ref x)] 1 = mkF mi 0 #[.val (.ref x)] [] := by first | (simp [entryFrame, mkF, argsToLocals, Value.category]; done) | rfl
def Q_isl1 (Z : State) (x : Addr) (zc : Int32) (hE : Heap) (n0 : Nat) (vv : Option Value) (hh : Heap) (LL : List Loc) : Prop := (vv = some (.int (1 : Int32))) ∧ (Fr n0 LL) ∧ (hh = hE)
set_option maxRecDepth 65536 in
set_option maxHeartbeats 40000000 in
theorem rm_isl1 (la : Launch) (Z : State) (a0 : Array Value) (hw : ∀ d ∈ tables_1, d.before a0 Z = true) (ws : List Jvm.Cond) (x : Addr) (zc : Int32) (hE : Heap) (n0 : Nat) (O : Old Z n0 hE) (P0_ : Fld Z hE x "java/lang/String" "coder" "B" (.int (0 : Int32))) (D0_ : Sta Z Z.heap "java/lang/String" "COMPACT_STRINGS" "Z" (.int zc)) (hzc : ¬ (zc = (0 : Int32))) :
    MetFree la mn9 (head1 (Jvm.Cond.code mn9 jdk_42_method_154_code 1 (some .boolean) :: ws) ({ frames := 0, cells := 0, slots := 0, locals := 0 } : Room)) (fun aa UU => aa = #[(.ref x)] ∧ Z.Warmed39 UU.vm ∧ UU.heap = hE) (fun _ _ _ _ _ => True) (fun _ UU oo UV => ∃ vv LL, oo = .returned vv ∧ Q_isl1 Z x zc hE n0 vv UV.heap LL ∧ FrameEnd UU oo UV LL ({ frames := 0, cells := 0, slots := 0, locals := 0 } : Room).cells ({ frames := 0, cells := 0, slots := 0, locals := 0 } : Room).slots) := by
  refine MetFree.of_bodySF (plainFor_of_name pn_java_lang_String) hisR ?_
  intro pg ev sb mi gs below me cd s₁ Bd hml0 hPt hKt
  obtain ⟨rfl, hZ, hh⟩ := hPt
  have hx := Bd.exec
  have hby := Bd.bytes
  have hml : cd.maxLocals = 1 := hml0
  have hown : sb.vm.findClass "java/lang/String" = some mi.cls := findClass_of_methodNamed Bd.named
  have hnm := (name_of_methodNamed Bd.named Bd.method).1
  have X0 : Stand pg la ev ({ frames := 0, cells := 0, slots := 0, locals := 0 } : Room) sb mi #[(.ref x)] below me cd s₁ [] 0 0 := Stand.of_body Bd
  have eE : s₁.heap = hE := by rw [← hh, Bd.state]; rfl
  have N0 := Fr.nil n0
  have pre0 : ∀ tt, Steps pg.tables ev below (s₁.setTop (mkF mi 0 #[.val (.ref x)] [])) tt → Steps pg.tables ev below (s₁.setTop (entryFrame mi #[(.ref x)] 1)) tt := fun tt kk => castTop (ef_isl1 mi x) kk
  obtain ⟨T101, X101, e101, st101⟩ := getS2 X0 hx hZ hown (host := "") (Or.inl (wd8 hw)) Via.refl eE (D0_.ext O.2) (g := (mkF mi 0 #[.val (.ref x)] [])) rfl (hb hby d_jdk_42_method_154_code_0)
  obtain ⟨T102, X102, e102, st102⟩ := getF X101 hx hZ hown (host := "") (Or.inl (wd28 hw)) Via.refl e101 P0_ (g := (mkF mi 7 #[.val (.ref x)] [(.ref x)])) rfl rfl (hb hby d_jdk_42_method_154_code_7)
  obtain ⟨fs, hr, hrun, hended, hW, hsame⟩ := X102.leave (v := some (.int (1 : Int32))) (fun hq => by rw [Bd.returns] at hq; cases hq)
  refine ⟨_, _, pre0 _ ?_, hrun, hended, _, _, rfl, ?_, ⟨_, rfl⟩, hW, hsame.mono (by decide) (by decide)⟩
  · show Steps pg.tables ev below (s₁.setTop (mkF mi 0 #[.val (.ref x)] [])) _
    refine st101 _ ?_
    show Steps pg.tables ev below (T101.setTop (mkF mi 3 #[.val (.ref x)] [(.int zc)])) _
    refine XS.ifNo X101.here hx rfl (hb hby d_jdk_42_method_154_code_3) rfl ((if0 _ _).trans (feq hzc).1) ?_
    refine XS.aloadN X101.here hx rfl (hb hby d_jdk_42_method_154_code_6) rfl rfl ?_
    show Steps pg.tables ev below (T101.setTop (mkF mi 7 #[.val (.ref x)] [(.ref x)])) _
    refine st102 _ ?_
    show Steps pg.tables ev below (T102.setTop (mkF mi 10 #[.val (.ref x)] [(.int (0 : Int32))])) _
    refine XS.ifNo X102.here hx rfl (hb hby d_jdk_42_method_154_code_10) rfl ((if0 _ _).trans (teq (rfl : (0 : Int32) = (0 : Int32))).2) ?_
    refine XS.iconst X102.here hx rfl (hb hby d_jdk_42_method_154_code_13) ?_
    refine XS.goto X102.here hx rfl (pc0 := 14) (pc' := 18) rfl (hb hby d_jdk_42_method_154_code_14) (by decide) (by decide) ?_
    show Steps pg.tables ev below (T102.setTop (mkF mi 18 #[.val (.ref x)] [(.int (1 : Int32))])) _
    exact retN X102 hx (t := .boolean) Bd.returns (by simp) (hb hby d_jdk_42_method_154_code_18) hr
  · show Q_isl1 Z x zc hE n0 _ T102.heap _
    rw [e102]
    exact ⟨rfl, N0, rfl⟩
theorem d_jdk_42_method_55_code_0 : decode jdk_42_method_55_code 0 = .ok (.aload_n 0, 1) := by decide +kernel
theorem d_jdk_42_method_55_code_1 : decode jdk_42_method_55_code 1 = .ok (.getfield 9, 3) := by decide +kernel
theorem d_jdk_42_method_55_code_4 : decode jdk_42_method_55_code 4 = .ok (.arraylength, 1) := by decide +kernel
theorem d_jdk_42_method_55_code_5 : decode jdk_42_method_55_code 5 = .ok (.ifCond .ne 7, 3) := by decide +kernel
theorem d_jdk_42_method_55_code_12 : decode jdk_42_method_55_code 12 = .ok (.iconst 0, 1) := by decide +kernel
theorem d_jdk_42_method_55_code_13 : decode jdk_42_method_55_code 13 = .ok (.ireturn, 1) := by decide +kernel
theorem ef_emp1 (mi : MethodId) (x : Addr) : entryFrame mi #[(.ref x)] 1 = mkF mi 0 #[.val (.ref x)] [] := by first | (simp [entryFrame, mkF, argsToLocals, Value.category]; done) | rfl
def Q_emp1 (Z : State) (x : Addr) (t : Addr) (c0 : Int32) (hE : Heap) (n0 : Nat) (vv : Option Value) (hh : Heap) (LL : List Loc) : Prop := (vv = some (.int (0 : Int32))) ∧ (Fr n0 LL) ∧ (hh = hE)
set_option maxRecDepth 65536 in
set_option maxHeartbeats 40000000 in
theorem rm_emp1 (la : Launch) (Z : State) (a0 : Array Value) (hw : ∀ d ∈ tables_1, d.before a0 Z = true) (ws : List Jvm.Cond) (x : Addr) (t : Addr) (c0 : Int32) (hE : Heap) (n0 : Nat) (O : Old Z n0 hE) (P0_ : LStr Z hE x t ([c0] : List Int32)) :
    MetFree la mn10 (head1 (Jvm.Cond.code mn10 jdk_42_method_55_code 1 (some .boolean) :: ws) ({ frames := 0, cells := 0, slots := 0, locals := 0 } : Room)) (fun aa UU => aa = #[(.ref x)] ∧ Z.Warmed39 UU.vm ∧ UU.heap = hE) (fun _ _ _ _ _ => True) (fun _ UU oo UV => ∃ vv LL, oo = .returned vv ∧ Q_emp1 Z x t c0 hE n0 vv UV.heap LL ∧ FrameEnd UU oo UV LL ({ frames := 0, cells := 0, slots := 0, locals := 0 } : Room).cells ({ frames := 0, cells := 0, slots := 0, locals := 0 } : Room).slots) := by
  refine MetFree.of_bodySF (plainFor_of_name pn_java_lang_String) hisR ?_
  intro pg ev sb mi gs below me cd s₁ Bd hml0 hPt hKt
  obtain ⟨rfl, hZ, hh⟩ := hPt
  have hx := Bd.exec
  have hby := Bd.bytes
  have hml : cd.maxLocals = 1 := hml0
  have hown : sb.vm.findClass "java/lang/String" = some mi.cls := findClass_of_methodNamed Bd.named
  have hnm := (name_of_methodNamed Bd.named Bd.method).1
  have X0 : Stand pg la ev ({ frames := 0, cells := 0, slots := 0, locals := 0 } : Room) sb mi #[(.ref x)] below me cd s₁ [] 0 0 := Stand.of_body Bd
  have eE : s₁.heap = hE := by rw [← hh, Bd.state]; rfl
  have N0 := Fr.nil n0
  have pre0 : ∀ tt, Steps pg.tables ev below (s₁.setTop (mkF mi 0 #[.val (.ref x)] [])) tt → Steps pg.tables ev below (s₁.setTop (entryFrame mi #[(.ref x)] 1)) tt := fun tt kk => castTop (ef_emp1 mi x) kk
  obtain ⟨sE101, sV101, sC101, ⟨kb101, sK101⟩, sb101, sl101⟩ := id P0_
  have sK101' : Arv Z hE t kb101 .byte (1 : Int32) [(.int (c0.toInt8.toInt32))] (.int (0 : Int32)) := sK101
  obtain ⟨T102, X102, e102, st102⟩ := getF X0 hx hZ hown (host := "") (Or.inl (wd26 hw)) Via.refl eE sV101 (g := (mkF mi 1 #[.val (.ref x)] [(.ref x)])) rfl rfl (hb hby d_jdk_42_method_55_code_1)
  obtain ⟨cl103, Ar103, -, Sz103, Nn103, -, -⟩ := id sK101'
  obtain ⟨fs, hr, hrun, hended, hW, hsame⟩ := X102.leave (v := some (.int (0 : Int32))) (fun hq => by rw [Bd.returns] at hq; cases hq)
  refine ⟨_, _, pre0 _ ?_, hrun, hended, _, _, rfl, ?_, ⟨_, rfl⟩, hW, hsame.mono (by decide) (by decide)⟩
  · show Steps pg.tables ev below (s₁.setTop (mkF mi 0 #[.val (.ref x)] [])) _
    refine XS.aloadN X0.here hx rfl (hb hby d_jdk_42_method_55_code_0) rfl rfl ?_
    show Steps pg.tables ev below (s₁.setTop (mkF mi 1 #[.val (.ref x)] [(.ref x)])) _
    refine st102 _ ?_
    show Steps pg.tables ev below (T102.setTop (mkF mi 4 #[.val (.ref x)] [(.ref t)])) _
    refine X102.arraylength hx (cell := cl103) (by rw [e102]; exact Ar103.1) (State.isArrayOf_alike hZ.alike Ar103.2.1) (g := (mkF mi 4 #[.val (.ref x)] [(.ref t)])) rfl (rest := []) rfl (hb hby d_jdk_42_method_55_code_4) _ ?_
    rw [len_of Sz103 Nn103]
    show Steps pg.tables ev below (T102.setTop (mkF mi 5 #[.val (.ref x)] [(.int (1 : Int32))])) _
    refine XS.ifYes X102.here hx rfl (pc0 := 5) (pc' := 12) rfl (hb hby d_jdk_42_method_55_code_5) rfl ((if0 _ _).trans (feq (by decide : ¬ ((1 : Int32) = (0 : Int32)))).2) (by decide) (by decide) ?_
    refine XS.iconst X102.here hx rfl (hb hby d_jdk_42_method_55_code_12) ?_
    show Steps pg.tables ev below (T102.setTop (mkF mi 13 #[.val (.ref x)] [(.int (0 : Int32))])) _
    exact retN X102 hx (t := .boolean) Bd.returns (by simp) (hb hby d_jdk_42_method_55_code_13) hr
  · show Q_emp1 Z x t c0 hE n0 _ T102.heap _
    rw [e102]
    exact ⟨rfl, N0, rfl⟩
theorem d_jdk_43_method_25_code_0 : decode jdk_43_method_25_code 0 = .ok (.aload_n 2, 1) := by decide +kernel
theorem d_jdk_43_method_25_code_1 : decode jdk_43_method_25_code 1 = .ok (.iconst 0, 1) := by decide +kernel
theorem d_jdk_43_method_25_code_2 : decode jdk_43_method_25_code 2 = .ok (.baload, 1) := by decide +kernel
theorem d_jdk_43_method_25_code_3 : decode jdk_43_method_25_code 3 = .ok (.istore 5, 2) := by decide +kernel
theorem d_jdk_43_method_25_code_5 : decode jdk_43_method_25_code 5 = .ok (.iload_n 1, 1) := by decide +kernel
theorem d_jdk_43_method_25_code_6 : decode jdk_43_method_25_code 6 = .ok (.iload_n 3, 1) := by decide +kernel
theorem d_jdk_43_method_25_code_7 : decode jdk_43_method_25_code 7 = .ok (.isub, 1) := by decide +kernel
theorem d_jdk_43_method_25_code_8 : decode jdk_43_method_25_code 8 = .ok (.istore 6, 2) := by decide +kernel
theorem d_jdk_43_method_25_code_10 : decode jdk_43_method_25_code 10 = .ok (.iload 4, 2) := by decide +kernel
theorem d_jdk_43_method_25_code_12 : decode jdk_43_method_25_code 12 = .ok (.istore 7, 2) := by decide +kernel
theorem d_jdk_43_method_25_code_14 : decode jdk_43_method_25_code 14 = .ok (.iload 7, 2) := by decide +kernel
theorem d_jdk_43_method_25_code_16 : decode jdk_43_method_25_code 16 = .ok (.iload 6, 2) := by decide +kernel
theorem d_jdk_43_method_25_code_18 : decode jdk_43_method_25_code 18 = .ok (.if_icmp .gt 101, 3) := by decide +kernel
theorem d_jdk_43_method_25_code_21 : decode jdk_43_method_25_code 21 = .ok (.aload_n 0, 1) := by decide +kernel
theorem d_jdk_43_method_25_code_22 : decode jdk_43_method_25_code 22 = .ok (.iload 7, 2) := by decide +kernel
theorem d_jdk_43_method_25_code_24 : decode jdk_43_method_25_code 24 = .ok (.baload, 1) := by decide +kernel
theorem d_jdk_43_method_25_code_25 : decode jdk_43_method_25_code 25 = .ok (.iload 5, 2) := by decide +kernel
theorem d_jdk_43_method_25_code_27 : decode jdk_43_method_25_code 27 = .ok (.if_icmp .eq 25, 3) := by decide +kernel
theorem d_jdk_43_method_25_code_30 : decode jdk_43_method_25_code 30 = .ok (.iinc 7 1, 3) := by decide +kernel
theorem d_jdk_43_method_25_code_33 : decode jdk_43_method_25_code 33 = .ok (.iload 7, 2) := by decide +kernel
theorem d_jdk_43_method_25_code_35 : decode jdk_43_method_25_code 35 = .ok (.iload 6, 2) := by decide +kernel
theorem d_jdk_43_method_25_code_37 : decode jdk_43_method_25_code 37 = .ok (.if_icmp .gt 15, 3) := by decide +kernel
theorem d_jdk_43_method_25_code_52 : decode jdk_43_method_25_code 52 = .ok (.iload 7, 2) := by decide +kernel
theorem d_jdk_43_method_25_code_54 : decode jdk_43_method_25_code 54 = .ok (.iload 6, 2) := by decide +kernel
theorem d_jdk_43_method_25_code_56 : decode jdk_43_method_25_code 56 = .ok (.if_icmp .gt 57, 3) := by decide +kernel
theorem d_jdk_43_method_25_code_113 : decode jdk_43_method_25_code 113 = .ok (.iinc 7 1, 3) := by decide +kernel
theorem d_jdk_43_method_25_code_116 : decode jdk_43_method_25_code 116 = .ok (.goto (-102), 3) := by decide +kernel
theorem d_jdk_43_method_25_code_119 : decode jdk_43_method_25_code 119 = .ok (.iconst (-1), 1) := by decide +kernel
theorem d_jdk_43_method_25_code_120 : decode jdk_43_method_25_code 120 = .ok (.ireturn, 1) := by decide +kernel
theorem ef_ixd1_47 (mi : MethodId) (t : Addr) (u : Addr) : entryFrame mi #[(.ref t), (.int (1 : Int32)), (.ref u), (.int (1 : Int32)), (.int (0 : Int32))] 11 = mkF mi 0 #[.val (.ref t), .val (.int (1 : Int32)), .val (.ref u), .val (.int (1 : Int32)), .val (.int (0 : Int32)), .unset, .unset, .unset, .unset, .unset, .unset] [] := by first | (simp [entryFrame, mkF, argsToLocals, Value.category]; done) | rfl
def Q_ixd1_47 (Z : State) (t : Addr) (u : Addr) (kt : ClassId) (ku : ClassId) (e0 : Int32) (hE : Heap) (n0 : Nat) (vv : Option Value) (hh : Heap) (LL : List Loc) : Prop := (vv = some (.int (-1 : Int32))) ∧ (Fr n0 LL) ∧ (hh = hE)
set_option maxRecDepth 65536 in
set_option maxHeartbeats 40000000 in
theorem rm_ixd1_47 (la : Launch) (Z : State) (a0 : Array Value) (hw : ∀ d ∈ tables_1, d.before a0 Z = true) (ws : List Jvm.Cond) (t : Addr) (u : Addr) (kt : ClassId) (ku : ClassId) (e0 : Int32) (hE : Heap) (n0 : Nat) (O : Old Z n0 hE) (P0_ : Arv Z hE t kt .byte (1 : Int32) [(.int e0)] (.int (0 : Int32))) (P1_ : Arv Z hE u ku .byte (1 : Int32) [(.int (47 : Int32))] (.int (0 : Int32))) (h0 : ¬ (e0 = (47 : Int32))) :
    MetFree la mn11 (head1 (Jvm.Cond.code mn11 jdk_43_method_25_code 11 (some .int) :: ws) ({ frames := 0, cells := 0, slots := 0, locals := 0 } : Room)) (fun aa UU => aa = #[(.ref t), (.int (1 : Int32)), (.ref u), (.int (1 : Int32)), (.int (0 : Int32))] ∧ Z.Warmed39 UU.vm ∧ UU.heap = hE) (fun _ _ _ _ _ => True) (fun _ UU oo UV => ∃ vv LL, oo = .returned vv ∧ Q_ixd1_47 Z t u kt ku e0 hE n0 vv UV.heap LL ∧ FrameEnd UU oo UV LL ({ frames := 0, cells := 0, slots := 0, locals := 0 } : Room).cells ({ frames := 0, cells := 0, slots := 0, locals := 0 } : Room).slots) := by
  refine MetFree.of_bodySF (plainFor_of_name pn_java_lang_StringLatin1) hisR ?_
  intro pg ev sb mi gs below me cd s₁ Bd hml0 hPt hKt
  obtain ⟨rfl, hZ, hh⟩ := hPt
  have hx := Bd.exec
  have hby := Bd.bytes
  have hml : cd.maxLocals = 11 := hml0
  have hown : sb.vm.findClass "java/lang/StringLatin1" = some mi.cls := findClass_of_methodNamed Bd.named
  have hnm := (name_of_methodNamed Bd.named Bd.method).1
  have X0 : Stand pg la ev ({ frames := 0, cells := 0, slots := 0, locals := 0 } : Room) sb mi #[(.ref t), (.int (1 : Int32)), (.ref u), (.int (1 : Int32)), (.int (0 : Int32))] below me cd s₁ [] 0 0 := Stand.of_body Bd
  have eE : s₁.heap = hE := by rw [← hh, Bd.state]; rfl
  have N0 := Fr.nil n0
  have pre0 : ∀ tt, Steps pg.tables ev below (s₁.setTop (mkF mi 0 #[.val (.ref t), .val (.int (1 : Int32)), .val (.ref u), .val (.int (1 : Int32)), .val (.int (0 : Int32)), .unset, .unset, .unset, .unset, .unset, .unset] [])) tt → Steps pg.tables ev below (s₁.setTop (entryFrame mi #[(.ref t), (.int (1 : Int32)), (.ref u), (.int (1 : Int32)), (.int (0 : Int32))] 11)) tt := fun tt kk => castTop (ef_ixd1_47 mi t u) kk
  obtain ⟨cl101, Ar101, -, Sz101, Nn101, Hh101, -⟩ := id P1_
  have hin101 : ¬ ((0 : Int32) < 0 ∨ cl101.slots.size ≤ ((0 : Int32)).toNatClampNeg) := inb_of Sz101 ⟨by decide, by decide⟩
  have hat101 : cl101.slots[((0 : Int32)).toNatClampNeg]? = some (.int (47 : Int32)) := Hh101.at hin101 rfl
  obtain ⟨cl102, Ar102, -, Sz102, Nn102, Hh102, -⟩ := id P0_
  have hin102 : ¬ ((0 : Int32) < 0 ∨ cl102.slots.size ≤ ((0 : Int32)).toNatClampNeg) := inb_of Sz102 ⟨by decide, by decide⟩
  have hat102 : cl102.slots[((0 : Int32)).toNatClampNeg]? = some (.int e0) := Hh102.at hin102 rfl
  obtain ⟨fs, hr, hrun, hended, hW, hsame⟩ := X0.leave (v := some (.int (-1 : Int32))) (fun hq => by rw [Bd.returns] at hq; cases hq)
  refine ⟨_, _, pre0 _ ?_, hrun, hended, _, _, rfl, ?_, ⟨_, rfl⟩, hW, hsame.mono (by decide) (by decide)⟩
  · show Steps pg.tables ev below (s₁.setTop (mkF mi 0 #[.val (.ref t), .val (.int (1 : Int32)), .val (.ref u), .val (.int (1 : Int32)), .val (.int (0 : Int32)), .unset, .unset, .unset, .unset, .unset, .unset] [])) _
    refine XS.aloadN X0.here hx rfl (hb hby d_jdk_43_method_25_code_0) rfl rfl ?_
    refine XS.iconst X0.here hx rfl (hb hby d_jdk_43_method_25_code_1) ?_
    show Steps pg.tables ev below (s₁.setTop (mkF mi 2 #[.val (.ref t), .val (.int (1 : Int32)), .val (.ref u), .val (.int (1 : Int32)), .val (.int (0 : Int32)), .unset, .unset, .unset, .unset, .unset, .unset] [(.int (0 : Int32)), (.ref u)])) _
    refine X0.baloadBytes hx (j := (0 : Int32)) (v := (.int (47 : Int32))) (by rw [eE]; exact Ar101.1) (State.isArrayOf_alike hZ.alike Ar101.2.1) Ar101.2.2 hin101 hat101 (g := (mkF mi 2 #[.val (.ref t), .val (.int (1 : Int32)), .val (.ref u), .val (.int (1 : Int32)), .val (.int (0 : Int32)), .unset, .unset, .unset, .unset, .unset, .unset] [(.int (0 : Int32)), (.ref u)])) rfl rfl (hb hby d_jdk_43_method_25_code_2) _ ?_
    show Steps pg.tables ev below (s₁.setTop (mkF mi 3 #[.val (.ref t), .val (.int (1 : Int32)), .val (.ref u), .val (.int (1 : Int32)), .val (.int (0 : Int32)), .unset, .unset, .unset, .unset, .unset, .unset] [(.int (47 : Int32))])) _
    refine XS.istore X0.here hx rfl (hb hby d_jdk_43_method_25_code_3) rfl (l' := #[.val (.ref t), .val (.int (1 : Int32)), .val (.ref u), .val (.int (1 : Int32)), .val (.int (0 : Int32)), .val (.int (47 : Int32)), .unset, .unset, .unset, .unset, .unset]) rfl ?_
    refine XS.iloadN X0.here hx rfl (hb hby d_jdk_43_method_25_code_5) rfl ?_
    refine XS.iloadN X0.here hx rfl (hb hby d_jdk_43_method_25_code_6) rfl ?_
    refine XS.isub X0.here hx rfl (hb hby d_jdk_43_method_25_code_7) rfl ?_
    refine XS.istore X0.here hx rfl (hb hby d_jdk_43_method_25_code_8) rfl (l' := #[.val (.ref t), .val (.int (1 : Int32)), .val (.ref u), .val (.int (1 : Int32)), .val (.int (0 : Int32)), .val (.int (47 : Int32)), .val (.int (0 : Int32)), .unset, .unset, .unset, .unset]) rfl ?_
    refine XS.iload X0.here hx rfl (hb hby d_jdk_43_method_25_code_10) rfl ?_
    show Steps pg.tables ev below (s₁.setTop (mkF mi 12 #[.val (.ref t), .val (.int (1 : Int32)), .val (.ref u), .val (.int (1 : Int32)), .val (.int (0 : Int32)), .val (.int (47 : Int32)), .val (.int (0 : Int32)), .unset, .unset, .unset, .unset] [(.int (0 : Int32))])) _
    refine XS.istore X0.here hx rfl (hb hby d_jdk_43_method_25_code_12) rfl (l' := #[.val (.ref t), .val (.int (1 : Int32)), .val (.ref u), .val (.int (1 : Int32)), .val (.int (0 : Int32)), .val (.int (47 : Int32)), .val (.int (0 : Int32)), .val (.int (0 : Int32)), .unset, .unset, .unset]) rfl ?_
    refine XS.iload X0.here hx rfl (hb hby d_jdk_43_method_25_code_14) rfl ?_
    refine XS.iload X0.here hx rfl (hb hby d_jdk_43_method_25_code_16) rfl ?_
    refine XS.icmpNo X0.here hx rfl (hb hby d_jdk_43_method_25_code_18) rfl (flt (fun q => absurd q (by simp [Int32.lt_irrefl]) : ¬ ((0 : Int32) < (0 : Int32)))).2.2.1 ?_
    refine XS.aloadN X0.here hx rfl (hb hby d_jdk_43_method_25_code_21) rfl rfl ?_
    refine XS.iload X0.here hx rfl (hb hby d_jdk_43_method_25_code_22) rfl ?_
    show Steps pg.tables ev below (s₁.setTop (mkF mi 24 #[.val (.ref t), .val (.int (1 : Int32)), .val (.ref u), .val (.int (1 : Int32)), .val (.int (0 : Int32)), .val (.int (47 : Int32)), .val (.int (0 : Int32)), .val (.int (0 : Int32)), .unset, .unset, .unset] [(.int (0 : Int32)), (.ref t)])) _
    refine X0.baloadBytes hx (j := (0 : Int32)) (v := (.int e0)) (by rw [eE]; exact Ar102.1) (State.isArrayOf_alike hZ.alike Ar102.2.1) Ar102.2.2 hin102 hat102 (g := (mkF mi 24 #[.val (.ref t), .val (.int (1 : Int32)), .val (.ref u), .val (.int (1 : Int32)), .val (.int (0 : Int32)), .val (.int (47 : Int32)), .val (.int (0 : Int32)), .val (.int (0 : Int32)), .unset, .unset, .unset] [(.int (0 : Int32)), (.ref t)])) rfl rfl (hb hby d_jdk_43_method_25_code_24) _ ?_
    show Steps pg.tables ev below (s₁.setTop (mkF mi 25 #[.val (.ref t), .val (.int (1 : Int32)), .val (.ref u), .val (.int (1 : Int32)), .val (.int (0 : Int32)), .val (.int (47 : Int32)), .val (.int (0 : Int32)), .val (.int (0 : Int32)), .unset, .unset, .unset] [(.int e0)])) _
    refine XS.iload X0.here hx rfl (hb hby d_jdk_43_method_25_code_25) rfl ?_
    refine XS.icmpNo X0.here hx rfl (hb hby d_jdk_43_method_25_code_27) rfl (feq h0).1 ?_
    refine XS.iinc X0.here hx rfl (hb hby d_jdk_43_method_25_code_30) rfl (l' := #[.val (.ref t), .val (.int (1 : Int32)), .val (.ref u), .val (.int (1 : Int32)), .val (.int (0 : Int32)), .val (.int (47 : Int32)), .val (.int (0 : Int32)), .val (.int (1 : Int32)), .unset, .unset, .unset]) rfl ?_
    refine XS.iload X0.here hx rfl (hb hby d_jdk_43_method_25_code_33) rfl ?_
    refine XS.iload X0.here hx rfl (hb hby d_jdk_43_method_25_code_35) rfl ?_
    refine XS.icmpYes X0.here hx rfl (pc0 := 37) (pc' := 52) rfl (hb hby d_jdk_43_method_25_code_37) rfl (tlt (by decide : (0 : Int32) < (1 : Int32))).2.2.1 (by decide) (by decide) ?_
    show Steps pg.tables ev below (s₁.setTop (mkF mi 52 #[.val (.ref t), .val (.int (1 : Int32)), .val (.ref u), .val (.int (1 : Int32)), .val (.int (0 : Int32)), .val (.int (47 : Int32)), .val (.int (0 : Int32)), .val (.int (1 : Int32)), .unset, .unset, .unset] [])) _
    refine XS.iload X0.here hx rfl (hb hby d_jdk_43_method_25_code_52) rfl ?_
    refine XS.iload X0.here hx rfl (hb hby d_jdk_43_method_25_code_54) rfl ?_
    refine XS.icmpYes X0.here hx rfl (pc0 := 56) (pc' := 113) rfl (hb hby d_jdk_43_method_25_code_56) rfl (tlt (by decide : (0 : Int32) < (1 : Int32))).2.2.1 (by decide) (by decide) ?_
    refine XS.iinc X0.here hx rfl (hb hby d_jdk_43_method_25_code_113) rfl (l' := #[.val (.ref t), .val (.int (1 : Int32)), .val (.ref u), .val (.int (1 : Int32)), .val (.int (0 : Int32)), .val (.int (47 : Int32)), .val (.int (0 : Int32)), .val (.int (2 : Int32)), .unset, .unset, .unset]) rfl ?_
    refine XS.goto X0.here hx rfl (pc0 := 116) (pc' := 14) rfl (hb hby d_jdk_43_method_25_code_116) (by decide) (by decide) ?_
    refine XS.iload X0.here hx rfl (hb hby d_jdk_43_method_25_code_14) rfl ?_
    show Steps pg.tables ev below (s₁.setTop (mkF mi 16 #[.val (.ref t), .val (.int (1 : Int32)), .val (.ref u), .val (.int (1 : Int32)), .val (.int (0 : Int32)), .val (.int (47 : Int32)), .val (.int (0 : Int32)), .val (.int (2 : Int32)), .unset, .unset, .unset] [(.int (2 : Int32))])) _
    refine XS.iload X0.here hx rfl (hb hby d_jdk_43_method_25_code_16) rfl ?_
    refine XS.icmpYes X0.here hx rfl (pc0 := 18) (pc' := 119) rfl (hb hby d_jdk_43_method_25_code_18) rfl (tlt (by decide : (0 : Int32) < (2 : Int32))).2.2.1 (by decide) (by decide) ?_
    refine XS.iconst X0.here hx rfl (hb hby d_jdk_43_method_25_code_119) ?_
    show Steps pg.tables ev below (s₁.setTop (mkF mi 120 #[.val (.ref t), .val (.int (1 : Int32)), .val (.ref u), .val (.int (1 : Int32)), .val (.int (0 : Int32)), .val (.int (47 : Int32)), .val (.int (0 : Int32)), .val (.int (2 : Int32)), .unset, .unset, .unset] [(.int (-1 : Int32))])) _
    exact retI X0 hx Bd.returns (hb hby d_jdk_43_method_25_code_120) hr
  · show Q_ixd1_47 Z t u kt ku e0 hE n0 _ s₁.heap _
    rw [eE]
    exact ⟨rfl, N0, rfl⟩
theorem d_jdk_43_method_24_code_0 : decode jdk_43_method_24_code 0 = .ok (.aload_n 1, 1) := by decide +kernel
theorem d_jdk_43_method_24_code_1 : decode jdk_43_method_24_code 1 = .ok (.arraylength, 1) := by decide +kernel
theorem d_jdk_43_method_24_code_2 : decode jdk_43_method_24_code 2 = .ok (.ifCond .ne 5, 3) := by decide +kernel
theorem d_jdk_43_method_24_code_7 : decode jdk_43_method_24_code 7 = .ok (.aload_n 0, 1) := by decide +kernel
theorem d_jdk_43_method_24_code_8 : decode jdk_43_method_24_code 8 = .ok (.arraylength, 1) := by decide +kernel
theorem d_jdk_43_method_24_code_9 : decode jdk_43_method_24_code 9 = .ok (.ifCond .ne 5, 3) := by decide +kernel
theorem d_jdk_43_method_24_code_14 : decode jdk_43_method_24_code 14 = .ok (.aload_n 0, 1) := by decide +kernel
theorem d_jdk_43_method_24_code_15 : decode jdk_43_method_24_code 15 = .ok (.aload_n 0, 1) := by decide +kernel
theorem d_jdk_43_method_24_code_16 : decode jdk_43_method_24_code 16 = .ok (.arraylength, 1) := by decide +kernel
theorem d_jdk_43_method_24_code_17 : decode jdk_43_method_24_code 17 = .ok (.aload_n 1, 1) := by decide +kernel
theorem d_jdk_43_method_24_code_18 : decode jdk_43_method_24_code 18 = .ok (.aload_n 1, 1) := by decide +kernel
theorem d_jdk_43_method_24_code_19 : decode jdk_43_method_24_code 19 = .ok (.arraylength, 1) := by decide +kernel
theorem d_jdk_43_method_24_code_20 : decode jdk_43_method_24_code 20 = .ok (.iconst 0, 1) := by decide +kernel
theorem d_jdk_43_method_24_code_21 : decode jdk_43_method_24_code 21 = .ok (.invokestatic 99, 3) := by decide +kernel
theorem d_jdk_43_method_24_code_24 : decode jdk_43_method_24_code 24 = .ok (.ireturn, 1) := by decide +kernel
theorem pd_3 : parseMethodDescriptor "([BI[BII)I" = some ⟨[(.array .byte), .int, (.array .byte), .int, .int], some .int⟩ := by decide +kernel
theorem ef_ixc1_47 (mi : MethodId) (t : Addr) (u : Addr) : entryFrame mi #[(.ref t), (.ref u)] 2 = mkF mi 0 #[.val (.ref t), .val (.ref u)] [] := by first | (simp [entryFrame, mkF, argsToLocals, Value.category]; done) | rfl
def Q_ixc1_47 (Z : State) (t : Addr) (u : Addr) (kt : ClassId) (ku : ClassId) (e0 : Int32) (hE : Heap) (n0 : Nat) (vv : Option Value) (hh : Heap) (LL : List Loc) : Prop := (vv = some (.int (-1 : Int32))) ∧ (Fr n0 LL) ∧ (hh = hE)
set_option maxRecDepth 65536 in
set_option maxHeartbeats 40000000 in
theorem rm_ixc1_47 (la : Launch) (Z : State) (a0 : Array Value) (hw : ∀ d ∈ tables_1, d.before a0 Z = true) (ws : List Jvm.Cond) (t : Addr) (u : Addr) (kt : ClassId) (ku : ClassId) (e0 : Int32) (hE : Heap) (n0 : Nat) (O : Old Z n0 hE) (P0_ : Arv Z hE t kt .byte (1 : Int32) [(.int e0)] (.int (0 : Int32))) (P1_ : Arv Z hE u ku .byte (1 : Int32) [(.int (47 : Int32))] (.int (0 : Int32))) (h0 : ¬ (e0 = (47 : Int32))) :
    MetFree la mn12 (head1 (Jvm.Cond.code mn12 jdk_43_method_24_code 2 (some .int) :: ws) ({ frames := 1, cells := 0, slots := 0, locals := 22 } : Room)) (fun aa UU => aa = #[(.ref t), (.ref u)] ∧ Z.Warmed39 UU.vm ∧ UU.heap = hE) (fun _ _ _ _ _ => True) (fun _ UU oo UV => ∃ vv LL, oo = .returned vv ∧ Q_ixc1_47 Z t u kt ku e0 hE n0 vv UV.heap LL ∧ FrameEnd UU oo UV LL ({ frames := 1, cells := 0, slots := 0, locals := 22 } : Room).cells ({ frames := 1, cells := 0, slots := 0, locals := 22 } : Room).slots) := by
  refine MetFree.of_bodySF (plainFor_of_name pn_java_lang_StringLatin1) hisR ?_
  intro pg ev sb mi gs below me cd s₁ Bd hml0 hPt hKt
  obtain ⟨rfl, hZ, hh⟩ := hPt
  have hx := Bd.exec
  have hby := Bd.bytes
  have hml : cd.maxLocals = 2 := hml0
  have hown : sb.vm.findClass "java/lang/StringLatin1" = some mi.cls := findClass_of_methodNamed Bd.named
  have hnm := (name_of_methodNamed Bd.named Bd.method).1
  have X0 : Stand pg la ev ({ frames := 1, cells := 0, slots := 0, locals := 22 } : Room) sb mi #[(.ref t), (.ref u)] below me cd s₁ [] 0 0 := Stand.of_body Bd
  have eE : s₁.heap = hE := by rw [← hh, Bd.state]; rfl
  have N0 := Fr.nil n0
  have pre0 : ∀ tt, Steps pg.tables ev below (s₁.setTop (mkF mi 0 #[.val (.ref t), .val (.ref u)] [])) tt → Steps pg.tables ev below (s₁.setTop (entryFrame mi #[(.ref t), (.ref u)] 2)) tt := fun tt kk => castTop (ef_ixc1_47 mi t u) kk
  obtain ⟨cl101, Ar101, -, Sz101, Nn101, -, -⟩ := id P1_
  obtain ⟨cl102, Ar102, -, Sz102, Nn102, -, -⟩ := id P0_
  obtain ⟨cl103, Ar103, -, Sz103, Nn103, -, -⟩ := id P0_
  obtain ⟨cl104, Ar104, -, Sz104, Nn104, -, -⟩ := id P1_
  obtain ⟨v105, _, ⟨T105, L105, k105, n105⟩, -, X105, ⟨Lc105, hQ105, l105, y105, z105⟩, st105⟩ := Jvm.LawKit.callS X0 hx (y := mn11) hown (mvT hZ (wd93 hw)) (mvT hZ (wd94 hw)) (mvT hZ (wd11 hw)) (mvT hZ (wd95 hw)) (by decide) (backOf (W := 0) (rm_ixd1_47 la Z a0 hw [] t u kt ku e0 hE n0 O P0_ P1_ (h0 : ¬ (e0 = (47 : Int32)))) hZ (wd95 hw) (wd11 hw) (by decide) (by decide)) (g := (mkF mi 21 #[.val (.ref t), .val (.ref u)] [(.int (0 : Int32)), (.int (1 : Int32)), (.ref u), (.int (1 : Int32)), (.ref t)])) rfl (by rw [hml]; rfl) (argsL := [(.ref t), (.int (1 : Int32)), (.ref u), (.int (1 : Int32)), (.int (0 : Int32))]) (rest := []) (lenOf pd_3 rfl) rfl (by show 2 * 0 + _ ≤ _; exact Nat.le_of_eq rfl) (hb hby d_jdk_43_method_24_code_21) (fun _ _ => ⟨rfl, eE, (by decide : 0 + 0 ≤ _), (by decide : 0 + 0 ≤ _)⟩)
  dsimp only [Pt.U, Pt.locs, Pt.cells, Pt.slots] at X105 l105 y105 z105 st105 hQ105
  subst l105 y105 z105
  obtain ⟨rfl, Nq105, ek105⟩ := hQ105
  have N105 := Fr.app N0 Nq105
  obtain ⟨fs, hr, hrun, hended, hW, hsame⟩ := X105.leave (v := some (.int (-1 : Int32))) (fun hq => by rw [Bd.returns] at hq; cases hq)
  refine ⟨_, _, pre0 _ ?_, hrun, hended, _, _, rfl, ?_, ⟨_, rfl⟩, hW, hsame.mono (by decide) (by decide)⟩
  · show Steps pg.tables ev below (s₁.setTop (mkF mi 0 #[.val (.ref t), .val (.ref u)] [])) _
    refine XS.aloadN X0.here hx rfl (hb hby d_jdk_43_method_24_code_0) rfl rfl ?_
    show Steps pg.tables ev below (s₁.setTop (mkF mi 1 #[.val (.ref t), .val (.ref u)] [(.ref u)])) _
    refine X0.arraylength hx (cell := cl101) (by rw [eE]; exact Ar101.1) (State.isArrayOf_alike hZ.alike Ar101.2.1) (g := (mkF mi 1 #[.val (.ref t), .val (.ref u)] [(.ref u)])) rfl (rest := []) rfl (hb hby d_jdk_43_method_24_code_1) _ ?_
    rw [len_of Sz101 Nn101]
    show Steps pg.tables ev below (s₁.setTop (mkF mi 2 #[.val (.ref t), .val (.ref u)] [(.int (1 : Int32))])) _
    refine XS.ifYes X0.here hx rfl (pc0 := 2) (pc' := 7) rfl (hb hby d_jdk_43_method_24_code_2) rfl ((if0 _ _).trans (feq (by decide : ¬ ((1 : Int32) = (0 : Int32)))).2) (by decide) (by decide) ?_
    refine XS.aloadN X0.here hx rfl (hb hby d_jdk_43_method_24_code_7) rfl rfl ?_
    show Steps pg.tables ev below (s₁.setTop (mkF mi 8 #[.val (.ref t), .val (.ref u)] [(.ref t)])) _
    refine X0.arraylength hx (cell := cl102) (by rw [eE]; exact Ar102.1) (State.isArrayOf_alike hZ.alike Ar102.2.1) (g := (mkF mi 8 #[.val (.ref t), .val (.ref u)] [(.ref t)])) rfl (rest := []) rfl (hb hby d_jdk_43_method_24_code_8) _ ?_
    rw [len_of Sz102 Nn102]
    show Steps pg.tables ev below (s₁.setTop (mkF mi 9 #[.val (.ref t), .val (.ref u)] [(.int (1 : Int32))])) _
    refine XS.ifYes X0.here hx rfl (pc0 := 9) (pc' := 14) rfl (hb hby d_jdk_43_method_24_code_9) rfl ((if0 _ _).trans (feq (by decide : ¬ ((1 : Int32) = (0 : Int32)))).2) (by decide) (by decide) ?_
    refine XS.aloadN X0.here hx rfl (hb hby d_jdk_43_method_24_code_14) rfl rfl ?_
    refine XS.aloadN X0.here hx rfl (hb hby d_jdk_43_method_24_code_15) rfl rfl ?_
    show Steps pg.tables ev below (s₁.setTop (mkF mi 16 #[.val (.ref t), .val (.ref u)] [(.ref t), (.ref t)])) _
    refine X0.arraylength hx (cell := cl103) (by rw [eE]; exact Ar103.1) (State.isArrayOf_alike hZ.alike Ar103.2.1) (g := (mkF mi 16 #[.val (.ref t), .val (.ref u)] [(.ref t), (.ref t)])) rfl (rest := [(.ref t)]) rfl (hb hby d_jdk_43_method_24_code_16) _ ?_
    rw [len_of Sz103 Nn103]
    show Steps pg.tables ev below (s₁.setTop (mkF mi 17 #[.val (.ref t), .val (.ref u)] [(.int (1 : Int32)), (.ref t)])) _
    refine XS.aloadN X0.here hx rfl (hb hby d_jdk_43_method_24_code_17) rfl rfl ?_
    refine XS.aloadN X0.here hx rfl (hb hby d_jdk_43_method_24_code_18) rfl rfl ?_
    show Steps pg.tables ev below (s₁.setTop (mkF mi 19 #[.val (.ref t), .val (.ref u)] [(.ref u), (.ref u), (.int (1 : Int32)), (.ref t)])) _
    refine X0.arraylength hx (cell := cl104) (by rw [eE]; exact Ar104.1) (State.isArrayOf_alike hZ.alike Ar104.2.1) (g := (mkF mi 19 #[.val (.ref t), .val (.ref u)] [(.ref u), (.ref u), (.int (1 : Int32)), (.ref t)])) rfl (rest := [(.ref u), (.int (1 : Int32)), (.ref t)]) rfl (hb hby d_jdk_43_method_24_code_19) _ ?_
    rw [len_of Sz104 Nn104]
    show Steps pg.tables ev below (s₁.setTop (mkF mi 20 #[.val (.ref t), .val (.ref u)] [(.int (1 : Int32)), (.ref u), (.int (1 : Int32)), (.ref t)])) _
    refine XS.iconst X0.here hx rfl (hb hby d_jdk_43_method_24_code_20) ?_
    show Steps pg.tables ev below (s₁.setTop (mkF mi 21 #[.val (.ref t), .val (.ref u)] [(.int (0 : Int32)), (.int (1 : Int32)), (.ref u), (.int (1 : Int32)), (.ref t)])) _
    refine st105 _ ?_
    show Steps pg.tables ev below (T105.setTop (mkF mi 24 #[.val (.ref t), .val (.ref u)] [(.int (-1 : Int32))])) _
    exact retI X105 hx Bd.returns (hb hby d_jdk_43_method_24_code_24) hr
  · show Q_ixc1_47 Z t u kt ku e0 hE n0 _ T105.heap _
    rw [ek105]
    exact ⟨rfl, N105, rfl⟩
theorem d_jdk_42_method_84_code_0 : decode jdk_42_method_84_code 0 = .ok (.aload_n 0, 1) := by decide +kernel
theorem d_jdk_42_method_84_code_1 : decode jdk_42_method_84_code 1 = .ok (.invokevirtual 335, 3) := by decide +kernel
theorem d_jdk_42_method_84_code_4 : decode jdk_42_method_84_code 4 = .ok (.istore_n 2, 1) := by decide +kernel
theorem d_jdk_42_method_84_code_5 : decode jdk_42_method_84_code 5 = .ok (.iload_n 2, 1) := by decide +kernel
theorem d_jdk_42_method_84_code_6 : decode jdk_42_method_84_code 6 = .ok (.aload_n 1, 1) := by decide +kernel
theorem d_jdk_42_method_84_code_7 : decode jdk_42_method_84_code 7 = .ok (.invokevirtual 335, 3) := by decide +kernel
theorem d_jdk_42_method_84_code_10 : decode jdk_42_method_84_code 10 = .ok (.if_icmp .ne 36, 3) := by decide +kernel
theorem d_jdk_42_method_84_code_13 : decode jdk_42_method_84_code 13 = .ok (.aload_n 0, 1) := by decide +kernel
theorem d_jdk_42_method_84_code_14 : decode jdk_42_method_84_code 14 = .ok (.invokevirtual 492, 3) := by decide +kernel
theorem d_jdk_42_method_84_code_17 : decode jdk_42_method_84_code 17 = .ok (.ifCond .eq 17, 3) := by decide +kernel
theorem d_jdk_42_method_84_code_20 : decode jdk_42_method_84_code 20 = .ok (.aload_n 0, 1) := by decide +kernel
theorem d_jdk_42_method_84_code_21 : decode jdk_42_method_84_code 21 = .ok (.getfield 9, 3) := by decide +kernel
theorem d_jdk_42_method_84_code_24 : decode jdk_42_method_84_code 24 = .ok (.aload_n 1, 1) := by decide +kernel
theorem d_jdk_42_method_84_code_25 : decode jdk_42_method_84_code 25 = .ok (.getfield 9, 3) := by decide +kernel
theorem d_jdk_42_method_84_code_28 : decode jdk_42_method_84_code 28 = .ok (.invokestatic 647, 3) := by decide +kernel
theorem d_jdk_42_method_84_code_31 : decode jdk_42_method_84_code 31 = .ok (.goto 14, 3) := by decide +kernel
theorem d_jdk_42_method_84_code_45 : decode jdk_42_method_84_code 45 = .ok (.ireturn, 1) := by decide +kernel
theorem pd_4 : parseMethodDescriptor "()B" = some ⟨[], some .byte⟩ := by decide +kernel
theorem pd_5 : parseMethodDescriptor "()Z" = some ⟨[], some .boolean⟩ := by decide +kernel
theorem pd_6 : parseMethodDescriptor "([B[B)I" = some ⟨[(.array .byte), (.array .byte)], some .int⟩ := by decide +kernel
theorem ef_ixs1_47 (mi : MethodId) (x : Addr) (y : Addr) : entryFrame mi #[(.ref x), (.ref y)] 3 = mkF mi 0 #[.val (.ref x), .val (.ref y), .unset] [] := by first | (simp [entryFrame, mkF, argsToLocals, Value.category]; done) | rfl
def Q_ixs1_47 (Z : State) (x : Addr) (y : Addr) (t : Addr) (u : Addr) (c0 : Int32) (zc : Int32) (hE : Heap) (n0 : Nat) (vv : Option Value) (hh : Heap) (LL : List Loc) : Prop := (vv = some (.int (-1 : Int32))) ∧ (Fr n0 LL) ∧ (hh = hE)
set_option maxRecDepth 65536 in
set_option maxHeartbeats 40000000 in
theorem rm_ixs1_47 (la : Launch) (Z : State) (a0 : Array Value) (hw : ∀ d ∈ tables_1, d.before a0 Z = true) (ws : List Jvm.Cond) (x : Addr) (y : Addr) (t : Addr) (u : Addr) (c0 : Int32) (zc : Int32) (hE : Heap) (n0 : Nat) (O : Old Z n0 hE) (P0_ : LStr Z hE x t ([c0] : List Int32)) (P1_ : LStr Z hE y u ([(47 : Int32)] : List Int32)) (D0_ : Sta Z Z.heap "java/lang/String" "COMPACT_STRINGS" "Z" (.int zc)) (h0 : ¬ ((c0.toInt8.toInt32) = (47 : Int32))) (hzc : ¬ (zc = (0 : Int32))) :
    MetFree la mn13 (head1 (Jvm.Cond.code mn13 jdk_42_method_84_code 3 (some .int) :: ws) ({ frames := 2, cells := 0, slots := 0, locals := 35 } : Room)) (fun aa UU => aa = #[(.ref x), (.ref y)] ∧ Z.Warmed39 UU.vm ∧ UU.heap = hE) (fun _ _ _ _ _ => True) (fun _ UU oo UV => ∃ vv LL, oo = .returned vv ∧ Q_ixs1_47 Z x y t u c0 zc hE n0 vv UV.heap LL ∧ FrameEnd UU oo UV LL ({ frames := 2, cells := 0, slots := 0, locals := 35 } : Room).cells ({ frames := 2, cells := 0, slots := 0, locals := 35 } : Room).slots) := by
  refine MetFree.of_bodySF (plainFor_of_name pn_java_lang_String) hisR ?_
  intro pg ev sb mi gs below me cd s₁ Bd hml0 hPt hKt
  obtain ⟨rfl, hZ, hh⟩ := hPt
  have hx := Bd.exec
  have hby := Bd.bytes
  have hml : cd.maxLocals = 3 := hml0
  have hown : sb.vm.findClass "java/lang/String" = some mi.cls := findClass_of_methodNamed Bd.named
  have hnm := (name_of_methodNamed Bd.named Bd.method).1
  have X0 : Stand pg la ev ({ frames := 2, cells := 0, slots := 0, locals := 35 } : Room) sb mi #[(.ref x), (.ref y)] below me cd s₁ [] 0 0 := Stand.of_body Bd
  have eE : s₁.heap = hE := by rw [← hh, Bd.state]; rfl
  have N0 := Fr.nil n0
  have pre0 : ∀ tt, Steps pg.tables ev below (s₁.setTop (mkF mi 0 #[.val (.ref x), .val (.ref y), .unset] [])) tt → Steps pg.tables ev below (s₁.setTop (entryFrame mi #[(.ref x), (.ref y)] 3)) tt := fun tt kk => castTop (ef_ixs1_47 mi x y) kk
  obtain ⟨sE101, sV101, sC101, ⟨kb101, sK101⟩, sb101, sl101⟩ := id P0_
  have sK101' : Arv Z hE t kb101 .byte (1 : Int32) [(.int (c0.toInt8.toInt32))] (.int (0 : Int32)) := sK101
  obtain ⟨sE102, sV102, sC102, ⟨kb102, sK102⟩, sb102, sl102⟩ := id P1_
  have sK102' : Arv Z hE u kb102 .byte (1 : Int32) [(.int (47 : Int32))] (.int (0 : Int32)) := sK102
  obtain ⟨cq103, kq103, q103a, q103b, q103c⟩ := isOf hZ eE sE101
  obtain ⟨v103, _, ⟨T103, L103, k103, n103⟩, -, X103, ⟨Lc103, hQ103, l103, y103, z103⟩, st103⟩ := X0.virtualBack hx (y := mn8) (z := mn8) hown (mvT hZ (wd80 hw)) (mvT hZ (wd81 hw)) (notFace_of_selects (args := #[]) (mvT hZ (wd83 hw))) (mvT hZ (wd83 hw)) (mvT hZ (wd82 hw)) (by decide) (backOf (W := 0) (rm_coder la Z a0 hw [] x zc hE n0 O sC101 D0_ (hzc : ¬ (zc = (0 : Int32)))) hZ (wd84 hw) (wd6 hw) (by decide) (by decide)) q103a q103c (g := (mkF mi 1 #[.val (.ref x), .val (.ref y), .unset] [(.ref x)])) rfl (by rw [hml]; rfl) (Steps.refl _) (argsL := []) (rest := []) (lenOf pd_4 rfl) rfl (by show 2 * 0 + _ ≤ _; exact Nat.le_of_eq rfl) (hb hby d_jdk_42_method_84_code_1) (fun _ _ => ⟨rfl, eE, (by decide : 0 + 0 ≤ _), (by decide : 0 + 0 ≤ _)⟩)
  dsimp only [Pt.U, Pt.locs, Pt.cells, Pt.slots] at X103 l103 y103 z103 st103 hQ103
  subst l103 y103 z103
  obtain ⟨rfl, Nq103, ek103⟩ := hQ103
  have N103 := Fr.app N0 Nq103
  obtain ⟨cq104, kq104, q104a, q104b, q104c⟩ := isOf hZ ek103 sE102
  obtain ⟨v104, _, ⟨T104, L104, k104, n104⟩, -, X104, ⟨Lc104, hQ104, l104, y104, z104⟩, st104⟩ := X103.virtualBack hx (y := mn8) (z := mn8) hown (mvT hZ (wd80 hw)) (mvT hZ (wd81 hw)) (notFace_of_selects (args := #[]) (mvT hZ (wd83 hw))) (mvT hZ (wd83 hw)) (mvT hZ (wd82 hw)) (by decide) (backOf (W := 1) (rm_coder la Z a0 hw [] y zc hE n0 O sC102 D0_ (hzc : ¬ (zc = (0 : Int32)))) hZ (wd84 hw) (wd6 hw) (by decide) (by decide)) q104a q104c (g := (mkF mi 7 #[.val (.ref x), .val (.ref y), .val (.int (0 : Int32))] [(.ref y), (.int (0 : Int32))])) rfl (by rw [hml]; rfl) (Steps.refl _) (argsL := []) (rest := [(.int (0 : Int32))]) (lenOf pd_4 rfl) rfl (by show 2 * 0 + _ ≤ _; exact Nat.le_of_eq rfl) (hb hby d_jdk_42_method_84_code_7) (fun _ _ => ⟨rfl, ek103, (by decide : 0 + 0 ≤ _), (by decide : 0 + 0 ≤ _)⟩)
  dsimp only [Pt.U, Pt.locs, Pt.cells, Pt.slots] at X104 l104 y104 z104 st104 hQ104
  subst l104 y104 z104
  obtain ⟨rfl, Nq104, ek104⟩ := hQ104
  have N104 := Fr.app N103 Nq104
  obtain ⟨cq105, kq105, q105a, q105b, q105c⟩ := isOf hZ ek104 sE101
  obtain ⟨v105, _, ⟨T105, L105, k105, n105⟩, -, X105, ⟨Lc105, hQ105, l105, y105, z105⟩, st105⟩ := X104.virtualBack hx (y := mn9) (z := mn9) hown (mvT hZ (wd85 hw)) (mvT hZ (wd86 hw)) (notFace_of_selects (args := #[]) (mvT hZ (wd88 hw))) (mvT hZ (wd88 hw)) (mvT hZ (wd87 hw)) (by decide) (backOf (W := 0) (rm_isl1 la Z a0 hw [] x zc hE n0 O sC101 D0_ (hzc : ¬ (zc = (0 : Int32)))) hZ (wd89 hw) (wd6 hw) (by decide) (by decide)) q105a q105c (g := (mkF mi 14 #[.val (.ref x), .val (.ref y), .val (.int (0 : Int32))] [(.ref x)])) rfl (by rw [hml]; rfl) (Steps.refl _) (argsL := []) (rest := []) (lenOf pd_5 rfl) rfl (by show 2 * 0 + _ ≤ _; exact Nat.le_of_eq rfl) (hb hby d_jdk_42_method_84_code_14) (fun _ _ => ⟨rfl, ek104, (by decide : 0 + 0 ≤ _), (by decide : 0 + 0 ≤ _)⟩)
  dsimp only [Pt.U, Pt.locs, Pt.cells, Pt.slots] at X105 l105 y105 z105 st105 hQ105
  subst l105 y105 z105
  obtain ⟨rfl, Nq105, ek105⟩ := hQ105
  have N105 := Fr.app N104 Nq105
  obtain ⟨T106, X106, e106, st106⟩ := getF X105 hx hZ hown (host := "") (Or.inl (wd26 hw)) Via.refl ek105 sV101 (g := (mkF mi 21 #[.val (.ref x), .val (.ref y), .val (.int (0 : Int32))] [(.ref x)])) rfl rfl (hb hby d_jdk_42_method_84_code_21)
  obtain ⟨T107, X107, e107, st107⟩ := getF X106 hx hZ hown (host := "") (Or.inl (wd26 hw)) Via.refl e106 sV102 (g := (mkF mi 25 #[.val (.ref x), .val (.ref y), .val (.int (0 : Int32))] [(.ref y), (.ref t)])) rfl rfl (hb hby d_jdk_42_method_84_code_25)
  obtain ⟨v108, _, ⟨T108, L108, k108, n108⟩, -, X108, ⟨Lc108, hQ108, l108, y108, z108⟩, st108⟩ := Jvm.LawKit.callS X107 hx (y := mn12) hown (mvT hZ (wd90 hw)) (mvT hZ (wd91 hw)) (mvT hZ (wd11 hw)) (mvT hZ (wd92 hw)) (by decide) (backOf (W := 0) (rm_ixc1_47 la Z a0 hw [] t u kb101 kb102 (c0.toInt8.toInt32) hE n0 O sK101' sK102' (h0 : ¬ ((c0.toInt8.toInt32) = (47 : Int32)))) hZ (wd92 hw) (wd11 hw) (by decide) (by decide)) (g := (mkF mi 28 #[.val (.ref x), .val (.ref y), .val (.int (0 : Int32))] [(.ref u), (.ref t)])) rfl (by rw [hml]; rfl) (argsL := [(.ref t), (.ref u)]) (rest := []) (lenOf pd_6 rfl) rfl (by show 2 * 0 + _ ≤ _; exact Nat.le_of_eq rfl) (hb hby d_jdk_42_method_84_code_28) (fun _ _ => ⟨rfl, e107, (by decide : 0 + 0 ≤ _), (by decide : 0 + 0 ≤ _)⟩)
  dsimp only [Pt.U, Pt.locs, Pt.cells, Pt.slots] at X108 l108 y108 z108 st108 hQ108
  subst l108 y108 z108
  obtain ⟨rfl, Nq108, ek108⟩ := hQ108
  have N108 := Fr.app N105 Nq108
  obtain ⟨fs, hr, hrun, hended, hW, hsame⟩ := X108.leave (v := some (.int (-1 : Int32))) (fun hq => by rw [Bd.returns] at hq; cases hq)
  refine ⟨_, _, pre0 _ ?_, hrun, hended, _, _, rfl, ?_, ⟨_, rfl⟩, hW, hsame.mono (by decide) (by decide)⟩
  · show Steps pg.tables ev below (s₁.setTop (mkF mi 0 #[.val (.ref x), .val (.ref y), .unset] [])) _
    refine XS.aloadN X0.here hx rfl (hb hby d_jdk_42_method_84_code_0) rfl rfl ?_
    show Steps pg.tables ev below (s₁.setTop (mkF mi 1 #[.val (.ref x), .val (.ref y), .unset] [(.ref x)])) _
    refine st103.trans ?_
    show Steps pg.tables ev below (T103.setTop (mkF mi 4 #[.val (.ref x), .val (.ref y), .unset] [(.int (0 : Int32))])) _
    refine XS.istoreN X103.here hx rfl (hb hby d_jdk_42_method_84_code_4) rfl (l' := #[.val (.ref x), .val (.ref y), .val (.int (0 : Int32))]) rfl ?_
    refine XS.iloadN X103.here hx rfl (hb hby d_jdk_42_method_84_code_5) rfl ?_
    refine XS.aloadN X103.here hx rfl (hb hby d_jdk_42_method_84_code_6) rfl rfl ?_
    show Steps pg.tables ev below (T103.setTop (mkF mi 7 #[.val (.ref x), .val (.ref y), .val (.int (0 : Int32))] [(.ref y), (.int (0 : Int32))])) _
    refine st104.trans ?_
    show Steps pg.tables ev below (T104.setTop (mkF mi 10 #[.val (.ref x), .val (.ref y), .val (.int (0 : Int32))] [(.int (0 : Int32)), (.int (0 : Int32))])) _
    refine XS.icmpNo X104.here hx rfl (hb hby d_jdk_42_method_84_code_10) rfl (teq (rfl : (0 : Int32) = (0 : Int32))).2 ?_
    refine XS.aloadN X104.here hx rfl (hb hby d_jdk_42_method_84_code_13) rfl rfl ?_
    show Steps pg.tables ev below (T104.setTop (mkF mi 14 #[.val (.ref x), .val (.ref y), .val (.int (0 : Int32))] [(.ref x)])) _
    refine st105.trans ?_
    show Steps pg.tables ev below (T105.setTop (mkF mi 17 #[.val (.ref x), .val (.ref y), .val (.int (0 : Int32))] [(.int (1 : Int32))])) _
    refine XS.ifNo X105.here hx rfl (hb hby d_jdk_42_method_84_code_17) rfl ((if0 _ _).trans (feq (by decide : ¬ ((1 : Int32) = (0 : Int32)))).1) ?_
    refine XS.aloadN X105.here hx rfl (hb hby d_jdk_42_method_84_code_20) rfl rfl ?_
    show Steps pg.tables ev below (T105.setTop (mkF mi 21 #[.val (.ref x), .val (.ref y), .val (.int (0 : Int32))] [(.ref x)])) _
    refine st106 _ ?_
    show Steps pg.tables ev below (T106.setTop (mkF mi 24 #[.val (.ref x), .val (.ref y), .val (.int (0 : Int32))] [(.ref t)])) _
    refine XS.aloadN X106.here hx rfl (hb hby d_jdk_42_method_84_code_24) rfl rfl ?_
    show Steps pg.tables ev below (T106.setTop (mkF mi 25 #[.val (.ref x), .val (.ref y), .val (.int (0 : Int32))] [(.ref y), (.ref t)])) _
    refine st107 _ ?_
    show Steps pg.tables ev below (T107.setTop (mkF mi 28 #[.val (.ref x), .val (.ref y), .val (.int (0 : Int32))] [(.ref u), (.ref t)])) _
    refine st108 _ ?_
    show Steps pg.tables ev below (T108.setTop (mkF mi 31 #[.val (.ref x), .val (.ref y), .val (.int (0 : Int32))] [(.int (-1 : Int32))])) _
    refine XS.goto X108.here hx rfl (pc0 := 31) (pc' := 45) rfl (hb hby d_jdk_42_method_84_code_31) (by decide) (by decide) ?_
    show Steps pg.tables ev below (T108.setTop (mkF mi 45 #[.val (.ref x), .val (.ref y), .val (.int (0 : Int32))] [(.int (-1 : Int32))])) _
    exact retI X108 hx Bd.returns (hb hby d_jdk_42_method_84_code_45) hr
  · show Q_ixs1_47 Z x y t u c0 zc hE n0 _ T108.heap _
    rw [ek108]
    exact ⟨rfl, N108, rfl⟩
theorem d_jdk_42_method_97_code_0 : decode jdk_42_method_97_code 0 = .ok (.aload_n 0, 1) := by decide +kernel
theorem d_jdk_42_method_97_code_1 : decode jdk_42_method_97_code 1 = .ok (.aload_n 1, 1) := by decide +kernel
theorem d_jdk_42_method_97_code_2 : decode jdk_42_method_97_code 2 = .ok (.invokeinterface 710 1, 5) := by decide +kernel
theorem d_jdk_42_method_97_code_7 : decode jdk_42_method_97_code 7 = .ok (.invokevirtual 711, 3) := by decide +kernel
theorem d_jdk_42_method_97_code_10 : decode jdk_42_method_97_code 10 = .ok (.ifCond .lt 7, 3) := by decide +kernel
theorem d_jdk_42_method_97_code_17 : decode jdk_42_method_97_code 17 = .ok (.iconst 0, 1) := by decide +kernel
theorem d_jdk_42_method_97_code_18 : decode jdk_42_method_97_code 18 = .ok (.ireturn, 1) := by decide +kernel
theorem pd_7 : parseMethodDescriptor "()Ljava/lang/String;" = some ⟨[], some (.object "java/lang/String")⟩ := by decide +kernel
theorem pd_8 : parseMethodDescriptor "(Ljava/lang/String;)I" = some ⟨[(.object "java/lang/String")], some .int⟩ := by decide +kernel
theorem ef_con1_47 (mi : MethodId) (x : Addr) (y : Addr) : entryFrame mi #[(.ref x), (.ref y)] 2 = mkF mi 0 #[.val (.ref x), .val (.ref y)] [] := by first | (simp [entryFrame, mkF, argsToLocals, Value.category]; done) | rfl
def Q_con1_47 (Z : State) (x : Addr) (y : Addr) (t : Addr) (u : Addr) (c0 : Int32) (zc : Int32) (hE : Heap) (n0 : Nat) (vv : Option Value) (hh : Heap) (LL : List Loc) : Prop := (vv = some (.int (0 : Int32))) ∧ (Fr n0 LL) ∧ (hh = hE)
set_option maxRecDepth 65536 in
set_option maxHeartbeats 40000000 in
theorem rm_con1_47 (la : Launch) (Z : State) (a0 : Array Value) (hw : ∀ d ∈ tables_1, d.before a0 Z = true) (ws : List Jvm.Cond) (x : Addr) (y : Addr) (t : Addr) (u : Addr) (c0 : Int32) (zc : Int32) (hE : Heap) (n0 : Nat) (O : Old Z n0 hE) (P0_ : LStr Z hE x t ([c0] : List Int32)) (P1_ : LStr Z hE y u ([(47 : Int32)] : List Int32)) (D0_ : Sta Z Z.heap "java/lang/String" "COMPACT_STRINGS" "Z" (.int zc)) (h0 : ¬ ((c0.toInt8.toInt32) = (47 : Int32))) (hzc : ¬ (zc = (0 : Int32))) :
    MetFree la mn15 (head1 (Jvm.Cond.code mn15 jdk_42_method_97_code 2 (some .boolean) :: ws) ({ frames := 3, cells := 0, slots := 0, locals := 49 } : Room)) (fun aa UU => aa = #[(.ref x), (.ref y)] ∧ Z.Warmed39 UU.vm ∧ UU.heap = hE) (fun _ _ _ _ _ => True) (fun _ UU oo UV => ∃ vv LL, oo = .returned vv ∧ Q_con1_47 Z x y t u c0 zc hE n0 vv UV.heap LL ∧ FrameEnd UU oo UV LL ({ frames := 3, cells := 0, slots := 0, locals := 49 } : Room).cells ({ frames := 3, cells := 0, slots := 0, locals := 49 } : Room).slots) := by
  refine MetFree.of_bodySF (plainFor_of_name pn_java_lang_String) hisR ?_
  intro pg ev sb mi gs below me cd s₁ Bd hml0 hPt hKt
  obtain ⟨rfl, hZ, hh⟩ := hPt
  have hx := Bd.exec
  have hby := Bd.bytes
  have hml : cd.maxLocals = 2 := hml0
  have hown : sb.vm.findClass "java/lang/String" = some mi.cls := findClass_of_methodNamed Bd.named
  have hnm := (name_of_methodNamed Bd.named Bd.method).1
  have X0 : Stand pg la ev ({ frames := 3, cells := 0, slots := 0, locals := 49 } : Room) sb mi #[(.ref x), (.ref y)] below me cd s₁ [] 0 0 := Stand.of_body Bd
  have eE : s₁.heap = hE := by rw [← hh, Bd.state]; rfl
  have N0 := Fr.nil n0
  have pre0 : ∀ tt, Steps pg.tables ev below (s₁.setTop (mkF mi 0 #[.val (.ref x), .val (.ref y)] [])) tt → Steps pg.tables ev below (s₁.setTop (entryFrame mi #[(.ref x), (.ref y)] 2)) tt := fun tt kk => castTop (ef_con1_47 mi x y) kk
  obtain ⟨cq101, kq101, q101a, q101b, q101c⟩ := isOf hZ eE (P1_).1
  obtain ⟨v101, _, ⟨T101, L101, k101, n101⟩, -, X101, ⟨Lc101, hQ101, l101, y101, z101⟩, st101⟩ := X0.interfaceBack hx (xi := mn14) (y := mn7) hown (mvT hZ (wd66 hw)) (mvT hZ (wd67 hw)) (mvT hZ (wd68 hw)) (mvT hZ (wd69 hw)) (mvT hZ (wd70 hw)) (mvT hZ (wd71 hw)) (mvT hZ (wd72 hw)) (mvT hZ (wd73 hw)) (by decide) (backOf (W := 1) (rm_sts la Z a0 hw [] y hE n0 O) hZ (wd74 hw) (wd6 hw) (by decide) (by decide)) q101a q101b q101c (g := (mkF mi 2 #[.val (.ref x), .val (.ref y)] [(.ref y), (.ref x)])) rfl (by rw [hml]; rfl) (Steps.refl _) (argsL := []) (rest := [(.ref x)]) (lenOf pd_7 rfl) rfl (by show 2 * 0 + _ ≤ _; exact Nat.le_of_eq rfl) (hb hby d_jdk_42_method_97_code_2) (fun _ _ => ⟨rfl, eE, (by decide : 0 + 0 ≤ _), (by decide : 0 + 0 ≤ _)⟩)
  dsimp only [Pt.U, Pt.locs, Pt.cells, Pt.slots] at X101 l101 y101 z101 st101 hQ101
  subst l101 y101 z101
  obtain ⟨rfl, Nq101, ek101⟩ := hQ101
  have N101 := Fr.app N0 Nq101
  obtain ⟨cq102, kq102, q102a, q102b, q102c⟩ := isOf hZ ek101 (P0_).1
  obtain ⟨v102, _, ⟨T102, L102, k102, n102⟩, -, X102, ⟨Lc102, hQ102, l102, y102, z102⟩, st102⟩ := X101.virtualBack hx (y := mn13) (z := mn13) hown (mvT hZ (wd75 hw)) (mvT hZ (wd76 hw)) (notFace_of_selects (args := #[]) (mvT hZ (wd78 hw))) (mvT hZ (wd78 hw)) (mvT hZ (wd77 hw)) (by decide) (backOf (W := 0) (rm_ixs1_47 la Z a0 hw [] x y t u c0 zc hE n0 O P0_ P1_ D0_ (h0 : ¬ ((c0.toInt8.toInt32) = (47 : Int32))) (hzc : ¬ (zc = (0 : Int32)))) hZ (wd79 hw) (wd6 hw) (by decide) (by decide)) q102a q102c (g := (mkF mi 7 #[.val (.ref x), .val (.ref y)] [(.ref y), (.ref x)])) rfl (by rw [hml]; rfl) (Steps.refl _) (argsL := [(.ref y)]) (rest := []) (lenOf pd_8 rfl) rfl (by show 2 * 0 + _ ≤ _; exact Nat.le_of_eq rfl) (hb hby d_jdk_42_method_97_code_7) (fun _ _ => ⟨rfl, ek101, (by decide : 0 + 0 ≤ _), (by decide : 0 + 0 ≤ _)⟩)
  dsimp only [Pt.U, Pt.locs, Pt.cells, Pt.slots] at X102 l102 y102 z102 st102 hQ102
  subst l102 y102 z102
  obtain ⟨rfl, Nq102, ek102⟩ := hQ102
  have N102 := Fr.app N101 Nq102
  obtain ⟨fs, hr, hrun, hended, hW, hsame⟩ := X102.leave (v := some (.int (0 : Int32))) (fun hq => by rw [Bd.returns] at hq; cases hq)
  refine ⟨_, _, pre0 _ ?_, hrun, hended, _, _, rfl, ?_, ⟨_, rfl⟩, hW, hsame.mono (by decide) (by decide)⟩
  · show Steps pg.tables ev below (s₁.setTop (mkF mi 0 #[.val (.ref x), .val (.ref y)] [])) _
    refine XS.aloadN X0.here hx rfl (hb hby d_jdk_42_method_97_code_0) rfl rfl ?_
    refine XS.aloadN X0.here hx rfl (hb hby d_jdk_42_method_97_code_1) rfl rfl ?_
    show Steps pg.tables ev below (s₁.setTop (mkF mi 2 #[.val (.ref x), .val (.ref y)] [(.ref y), (.ref x)])) _
    refine st101.trans ?_
    show Steps pg.tables ev below (T101.setTop (mkF mi 7 #[.val (.ref x), .val (.ref y)] [(.ref y), (.ref x)])) _
    refine st102.trans ?_
    show Steps pg.tables ev below (T102.setTop (mkF mi 10 #[.val (.ref x), .val (.ref y)] [(.int (-1 : Int32))])) _
    refine XS.ifYes X102.here hx rfl (pc0 := 10) (pc' := 17) rfl (hb hby d_jdk_42_method_97_code_10) rfl ((if0 _ _).trans (tlt (by decide : (-1 : Int32) < (0 : Int32))).1) (by decide) (by decide) ?_
    refine XS.iconst X102.here hx rfl (hb hby d_jdk_42_method_97_code_17) ?_
    show Steps pg.tables ev below (T102.setTop (mkF mi 18 #[.val (.ref x), .val (.ref y)] [(.int (0 : Int32))])) _
    exact retN X102 hx (t := .boolean) Bd.returns (by simp) (hb hby d_jdk_42_method_97_code_18) hr
  · show Q_con1_47 Z x y t u c0 zc hE n0 _ T102.heap _
    rw [ek102]
    exact ⟨rfl, N102, rfl⟩
theorem ef_ixd1_33 (mi : MethodId) (t : Addr) (u : Addr) : entryFrame mi #[(.ref t), (.int (1 : Int32)), (.ref u), (.int (1 : Int32)), (.int (0 : Int32))] 11 = mkF mi 0 #[.val (.ref t), .val (.int (1 : Int32)), .val (.ref u), .val (.int (1 : Int32)), .val (.int (0 : Int32)), .unset, .unset, .unset, .unset, .unset, .unset] [] := by first | (simp [entryFrame, mkF, argsToLocals, Value.category]; done) | rfl
def Q_ixd1_33 (Z : State) (t : Addr) (u : Addr) (kt : ClassId) (ku : ClassId) (e0 : Int32) (hE : Heap) (n0 : Nat) (vv : Option Value) (hh : Heap) (LL : List Loc) : Prop := (vv = some (.int (-1 : Int32))) ∧ (Fr n0 LL) ∧ (hh = hE)
set_option maxRecDepth 65536 in
set_option maxHeartbeats 40000000 in
theorem rm_ixd1_33 (la : Launch) (Z : State) (a0 : Array Value) (hw : ∀ d ∈ tables_1, d.before a0 Z = true) (ws : List Jvm.Cond) (t : Addr) (u : Addr) (kt : ClassId) (ku : ClassId) (e0 : Int32) (hE : Heap) (n0 : Nat) (O : Old Z n0 hE) (P0_ : Arv Z hE t kt .byte (1 : Int32) [(.int e0)] (.int (0 : Int32))) (P1_ : Arv Z hE u ku .byte (1 : Int32) [(.int (33 : Int32))] (.int (0 : Int32))) (h0 : ¬ (e0 = (33 : Int32))) :
    MetFree la mn11 (head1 (Jvm.Cond.code mn11 jdk_43_method_25_code 11 (some .int) :: ws) ({ frames := 0, cells := 0, slots := 0, locals := 0 } : Room)) (fun aa UU => aa = #[(.ref t), (.int (1 : Int32)), (.ref u), (.int (1 : Int32)), (.int (0 : Int32))] ∧ Z.Warmed39 UU.vm ∧ UU.heap = hE) (fun _ _ _ _ _ => True) (fun _ UU oo UV => ∃ vv LL, oo = .returned vv ∧ Q_ixd1_33 Z t u kt ku e0 hE n0 vv UV.heap LL ∧ FrameEnd UU oo UV LL ({ frames := 0, cells := 0, slots := 0, locals := 0 } : Room).cells ({ frames := 0, cells := 0, slots := 0, locals := 0 } : Room).slots) := by
  refine MetFree.of_bodySF (plainFor_of_name pn_java_lang_StringLatin1) hisR ?_
  intro pg ev sb mi gs below me cd s₁ Bd hml0 hPt hKt
  obtain ⟨rfl, hZ, hh⟩ := hPt
  have hx := Bd.exec
  have hby := Bd.bytes
  have hml : cd.maxLocals = 11 := hml0
  have hown : sb.vm.findClass "java/lang/StringLatin1" = some mi.cls := findClass_of_methodNamed Bd.named
  have hnm := (name_of_methodNamed Bd.named Bd.method).1
  have X0 : Stand pg la ev ({ frames := 0, cells := 0, slots := 0, locals := 0 } : Room) sb mi #[(.ref t), (.int (1 : Int32)), (.ref u), (.int (1 : Int32)), (.int (0 : Int32))] below me cd s₁ [] 0 0 := Stand.of_body Bd
  have eE : s₁.heap = hE := by rw [← hh, Bd.state]; rfl
  have N0 := Fr.nil n0
  have pre0 : ∀ tt, Steps pg.tables ev below (s₁.setTop (mkF mi 0 #[.val (.ref t), .val (.int (1 : Int32)), .val (.ref u), .val (.int (1 : Int32)), .val (.int (0 : Int32)), .unset, .unset, .unset, .unset, .unset, .unset] [])) tt → Steps pg.tables ev below (s₁.setTop (entryFrame mi #[(.ref t), (.int (1 : Int32)), (.ref u), (.int (1 : Int32)), (.int (0 : Int32))] 11)) tt := fun tt kk => castTop (ef_ixd1_33 mi t u) kk
  obtain ⟨cl101, Ar101, -, Sz101, Nn101, Hh101, -⟩ := id P1_
  have hin101 : ¬ ((0 : Int32) < 0 ∨ cl101.slots.size ≤ ((0 : Int32)).toNatClampNeg) := inb_of Sz101 ⟨by decide, by decide⟩
  have hat101 : cl101.slots[((0 : Int32)).toNatClampNeg]? = some (.int (33 : Int32)) := Hh101.at hin101 rfl
  obtain ⟨cl102, Ar102, -, Sz102, Nn102, Hh102, -⟩ := id P0_
  have hin102 : ¬ ((0 : Int32) < 0 ∨ cl102.slots.size ≤ ((0 : Int32)).toNatClampNeg) := inb_of Sz102 ⟨by decide, by decide⟩
  have hat102 : cl102.slots[((0 : Int32)).toNatClampNeg]? = some (.int e0) := Hh102.at hin102 rfl
  obtain ⟨fs, hr, hrun, hended, hW, hsame⟩ := X0.leave (v := some (.int (-1 : Int32))) (fun hq => by rw [Bd.returns] at hq; cases hq)
  refine ⟨_, _, pre0 _ ?_, hrun, hended, _, _, rfl, ?_, ⟨_, rfl⟩, hW, hsame.mono (by decide) (by decide)⟩
  · show Steps pg.tables ev below (s₁.setTop (mkF mi 0 #[.val (.ref t), .val (.int (1 : Int32)), .val (.ref u), .val (.int (1 : Int32)), .val (.int (0 : Int32)), .unset, .unset, .unset, .unset, .unset, .unset] [])) _
    refine XS.aloadN X0.here hx rfl (hb hby d_jdk_43_method_25_code_0) rfl rfl ?_
    refine XS.iconst X0.here hx rfl (hb hby d_jdk_43_method_25_code_1) ?_
    show Steps pg.tables ev below (s₁.setTop (mkF mi 2 #[.val (.ref t), .val (.int (1 : Int32)), .val (.ref u), .val (.int (1 : Int32)), .val (.int (0 : Int32)), .unset, .unset, .unset, .unset, .unset, .unset] [(.int (0 : Int32)), (.ref u)])) _
    refine X0.baloadBytes hx (j := (0 : Int32)) (v := (.int (33 : Int32))) (by rw [eE]; exact Ar101.1) (State.isArrayOf_alike hZ.alike Ar101.2.1) Ar101.2.2 hin101 hat101 (g := (mkF mi 2 #[.val (.ref t), .val (.int (1 : Int32)), .val (.ref u), .val (.int (1 : Int32)), .val (.int (0 : Int32)), .unset, .unset, .unset, .unset, .unset, .unset] [(.int (0 : Int32)), (.ref u)])) rfl rfl (hb hby d_jdk_43_method_25_code_2) _ ?_
    show Steps pg.tables ev below (s₁.setTop (mkF mi 3 #[.val (.ref t), .val (.int (1 : Int32)), .val (.ref u), .val (.int (1 : Int32)), .val (.int (0 : Int32)), .unset, .unset, .unset, .unset, .unset, .unset] [(.int (33 : Int32))])) _
    refine XS.istore X0.here hx rfl (hb hby d_jdk_43_method_25_code_3) rfl (l' := #[.val (.ref t), .val (.int (1 : Int32)), .val (.ref u), .val (.int (1 : Int32)), .val (.int (0 : Int32)), .val (.int (33 : Int32)), .unset, .unset, .unset, .unset, .unset]) rfl ?_
    refine XS.iloadN X0.here hx rfl (hb hby d_jdk_43_method_25_code_5) rfl ?_
    refine XS.iloadN X0.here hx rfl (hb hby d_jdk_43_method_25_code_6) rfl ?_
    refine XS.isub X0.here hx rfl (hb hby d_jdk_43_method_25_code_7) rfl ?_
    refine XS.istore X0.here hx rfl (hb hby d_jdk_43_method_25_code_8) rfl (l' := #[.val (.ref t), .val (.int (1 : Int32)), .val (.ref u), .val (.int (1 : Int32)), .val (.int (0 : Int32)), .val (.int (33 : Int32)), .val (.int (0 : Int32)), .unset, .unset, .unset, .unset]) rfl ?_
    refine XS.iload X0.here hx rfl (hb hby d_jdk_43_method_25_code_10) rfl ?_
    show Steps pg.tables ev below (s₁.setTop (mkF mi 12 #[.val (.ref t), .val (.int (1 : Int32)), .val (.ref u), .val (.int (1 : Int32)), .val (.int (0 : Int32)), .val (.int (33 : Int32)), .val (.int (0 : Int32)), .unset, .unset, .unset, .unset] [(.int (0 : Int32))])) _
    refine XS.istore X0.here hx rfl (hb hby d_jdk_43_method_25_code_12) rfl (l' := #[.val (.ref t), .val (.int (1 : Int32)), .val (.ref u), .val (.int (1 : Int32)), .val (.int (0 : Int32)), .val (.int (33 : Int32)), .val (.int (0 : Int32)), .val (.int (0 : Int32)), .unset, .unset, .unset]) rfl ?_
    refine XS.iload X0.here hx rfl (hb hby d_jdk_43_method_25_code_14) rfl ?_
    refine XS.iload X0.here hx rfl (hb hby d_jdk_43_method_25_code_16) rfl ?_
    refine XS.icmpNo X0.here hx rfl (hb hby d_jdk_43_method_25_code_18) rfl (flt (fun q => absurd q (by simp [Int32.lt_irrefl]) : ¬ ((0 : Int32) < (0 : Int32)))).2.2.1 ?_
    refine XS.aloadN X0.here hx rfl (hb hby d_jdk_43_method_25_code_21) rfl rfl ?_
    refine XS.iload X0.here hx rfl (hb hby d_jdk_43_method_25_code_22) rfl ?_
    show Steps pg.tables ev below (s₁.setTop (mkF mi 24 #[.val (.ref t), .val (.int (1 : Int32)), .val (.ref u), .val (.int (1 : Int32)), .val (.int (0 : Int32)), .val (.int (33 : Int32)), .val (.int (0 : Int32)), .val (.int (0 : Int32)), .unset, .unset, .unset] [(.int (0 : Int32)), (.ref t)])) _
    refine X0.baloadBytes hx (j := (0 : Int32)) (v := (.int e0)) (by rw [eE]; exact Ar102.1) (State.isArrayOf_alike hZ.alike Ar102.2.1) Ar102.2.2 hin102 hat102 (g := (mkF mi 24 #[.val (.ref t), .val (.int (1 : Int32)), .val (.ref u), .val (.int (1 : Int32)), .val (.int (0 : Int32)), .val (.int (33 : Int32)), .val (.int (0 : Int32)), .val (.int (0 : Int32)), .unset, .unset, .unset] [(.int (0 : Int32)), (.ref t)])) rfl rfl (hb hby d_jdk_43_method_25_code_24) _ ?_
    show Steps pg.tables ev below (s₁.setTop (mkF mi 25 #[.val (.ref t), .val (.int (1 : Int32)), .val (.ref u), .val (.int (1 : Int32)), .val (.int (0 : Int32)), .val (.int (33 : Int32)), .val (.int (0 : Int32)), .val (.int (0 : Int32)), .unset, .unset, .unset] [(.int e0)])) _
    refine XS.iload X0.here hx rfl (hb hby d_jdk_43_method_25_code_25) rfl ?_
    refine XS.icmpNo X0.here hx rfl (hb hby d_jdk_43_method_25_code_27) rfl (feq h0).1 ?_
    refine XS.iinc X0.here hx rfl (hb hby d_jdk_43_method_25_code_30) rfl (l' := #[.val (.ref t), .val (.int (1 : Int32)), .val (.ref u), .val (.int (1 : Int32)), .val (.int (0 : Int32)), .val (.int (33 : Int32)), .val (.int (0 : Int32)), .val (.int (1 : Int32)), .unset, .unset, .unset]) rfl ?_
    refine XS.iload X0.here hx rfl (hb hby d_jdk_43_method_25_code_33) rfl ?_
    refine XS.iload X0.here hx rfl (hb hby d_jdk_43_method_25_code_35) rfl ?_
    refine XS.icmpYes X0.here hx rfl (pc0 := 37) (pc' := 52) rfl (hb hby d_jdk_43_method_25_code_37) rfl (tlt (by decide : (0 : Int32) < (1 : Int32))).2.2.1 (by decide) (by decide) ?_
    show Steps pg.tables ev below (s₁.setTop (mkF mi 52 #[.val (.ref t), .val (.int (1 : Int32)), .val (.ref u), .val (.int (1 : Int32)), .val (.int (0 : Int32)), .val (.int (33 : Int32)), .val (.int (0 : Int32)), .val (.int (1 : Int32)), .unset, .unset, .unset] [])) _
    refine XS.iload X0.here hx rfl (hb hby d_jdk_43_method_25_code_52) rfl ?_
    refine XS.iload X0.here hx rfl (hb hby d_jdk_43_method_25_code_54) rfl ?_
    refine XS.icmpYes X0.here hx rfl (pc0 := 56) (pc' := 113) rfl (hb hby d_jdk_43_method_25_code_56) rfl (tlt (by decide : (0 : Int32) < (1 : Int32))).2.2.1 (by decide) (by decide) ?_
    refine XS.iinc X0.here hx rfl (hb hby d_jdk_43_method_25_code_113) rfl (l' := #[.val (.ref t), .val (.int (1 : Int32)), .val (.ref u), .val (.int (1 : Int32)), .val (.int (0 : Int32)), .val (.int (33 : Int32)), .val (.int (0 : Int32)), .val (.int (2 : Int32)), .unset, .unset, .unset]) rfl ?_
    refine XS.goto X0.here hx rfl (pc0 := 116) (pc' := 14) rfl (hb hby d_jdk_43_method_25_code_116) (by decide) (by decide) ?_
    refine XS.iload X0.here hx rfl (hb hby d_jdk_43_method_25_code_14) rfl ?_
    show Steps pg.tables ev below (s₁.setTop (mkF mi 16 #[.val (.ref t), .val (.int (1 : Int32)), .val (.ref u), .val (.int (1 : Int32)), .val (.int (0 : Int32)), .val (.int (33 : Int32)), .val (.int (0 : Int32)), .val (.int (2 : Int32)), .unset, .unset, .unset] [(.int (2 : Int32))])) _
    refine XS.iload X0.here hx rfl (hb hby d_jdk_43_method_25_code_16) rfl ?_
    refine XS.icmpYes X0.here hx rfl (pc0 := 18) (pc' := 119) rfl (hb hby d_jdk_43_method_25_code_18) rfl (tlt (by decide : (0 : Int32) < (2 : Int32))).2.2.1 (by decide) (by decide) ?_
    refine XS.iconst X0.here hx rfl (hb hby d_jdk_43_method_25_code_119) ?_
    show Steps pg.tables ev below (s₁.setTop (mkF mi 120 #[.val (.ref t), .val (.int (1 : Int32)), .val (.ref u), .val (.int (1 : Int32)), .val (.int (0 : Int32)), .val (.int (33 : Int32)), .val (.int (0 : Int32)), .val (.int (2 : Int32)), .unset, .unset, .unset] [(.int (-1 : Int32))])) _
    exact retI X0 hx Bd.returns (hb hby d_jdk_43_method_25_code_120) hr
  · show Q_ixd1_33 Z t u kt ku e0 hE n0 _ s₁.heap _
    rw [eE]
    exact ⟨rfl, N0, rfl⟩
theorem ef_ixc1_33 (mi : MethodId) (t : Addr) (u : Addr) : entryFrame mi #[(.ref t), (.ref u)] 2 = mkF mi 0 #[.val (.ref t), .val (.ref u)] [] := by first | (simp [entryFrame, mkF, argsToLocals, Value.category]; done) | rfl
def Q_ixc1_33 (Z : State) (t : Addr) (u : Addr) (kt : ClassId) (ku : ClassId) (e0 : Int32) (hE : Heap) (n0 : Nat) (vv : Option Value) (hh : Heap) (LL : List Loc) : Prop := (vv = some (.int (-1 : Int32))) ∧ (Fr n0 LL) ∧ (hh = hE)
set_option maxRecDepth 65536 in
set_option maxHeartbeats 40000000 in
theorem rm_ixc1_33 (la : Launch) (Z : State) (a0 : Array Value) (hw : ∀ d ∈ tables_1, d.before a0 Z = true) (ws : List Jvm.Cond) (t : Addr) (u : Addr) (kt : ClassId) (ku : ClassId) (e0 : Int32) (hE : Heap) (n0 : Nat) (O : Old Z n0 hE) (P0_ : Arv Z hE t kt .byte (1 : Int32) [(.int e0)] (.int (0 : Int32))) (P1_ : Arv Z hE u ku .byte (1 : Int32) [(.int (33 : Int32))] (.int (0 : Int32))) (h0 : ¬ (e0 = (33 : Int32))) :
    MetFree la mn12 (head1 (Jvm.Cond.code mn12 jdk_43_method_24_code 2 (some .int) :: ws) ({ frames := 1, cells := 0, slots := 0, locals := 22 } : Room)) (fun aa UU => aa = #[(.ref t), (.ref u)] ∧ Z.Warmed39 UU.vm ∧ UU.heap = hE) (fun _ _ _ _ _ => True) (fun _ UU oo UV => ∃ vv LL, oo = .returned vv ∧ Q_ixc1_33 Z t u kt ku e0 hE n0 vv UV.heap LL ∧ FrameEnd UU oo UV LL ({ frames := 1, cells := 0, slots := 0, locals := 22 } : Room).cells ({ frames := 1, cells := 0, slots := 0, locals := 22 } : Room).slots) := by
  refine MetFree.of_bodySF (plainFor_of_name pn_java_lang_StringLatin1) hisR ?_
  intro pg ev sb mi gs below me cd s₁ Bd hml0 hPt hKt
  obtain ⟨rfl, hZ, hh⟩ := hPt
  have hx := Bd.exec
  have hby := Bd.bytes
  have hml : cd.maxLocals = 2 := hml0
  have hown : sb.vm.findClass "java/lang/StringLatin1" = some mi.cls := findClass_of_methodNamed Bd.named
  have hnm := (name_of_methodNamed Bd.named Bd.method).1
  have X0 : Stand pg la ev ({ frames := 1, cells := 0, slots := 0, locals := 22 } : Room) sb mi #[(.ref t), (.ref u)] below me cd s₁ [] 0 0 := Stand.of_body Bd
  have eE : s₁.heap = hE := by rw [← hh, Bd.state]; rfl
  have N0 := Fr.nil n0
  have pre0 : ∀ tt, Steps pg.tables ev below (s₁.setTop (mkF mi 0 #[.val (.ref t), .val (.ref u)] [])) tt → Steps pg.tables ev below (s₁.setTop (entryFrame mi #[(.ref t), (.ref u)] 2)) tt := fun tt kk => castTop (ef_ixc1_33 mi t u) kk
  obtain ⟨cl101, Ar101, -, Sz101, Nn101, -, -⟩ := id P1_
  obtain ⟨cl102, Ar102, -, Sz102, Nn102, -, -⟩ := id P0_
  obtain ⟨cl103, Ar103, -, Sz103, Nn103, -, -⟩ := id P0_
  obtain ⟨cl104, Ar104, -, Sz104, Nn104, -, -⟩ := id P1_
  obtain ⟨v105, _, ⟨T105, L105, k105, n105⟩, -, X105, ⟨Lc105, hQ105, l105, y105, z105⟩, st105⟩ := Jvm.LawKit.callS X0 hx (y := mn11) hown (mvT hZ (wd93 hw)) (mvT hZ (wd94 hw)) (mvT hZ (wd11 hw)) (mvT hZ (wd95 hw)) (by decide) (backOf (W := 0) (rm_ixd1_33 la Z a0 hw [] t u kt ku e0 hE n0 O P0_ P1_ (h0 : ¬ (e0 = (33 : Int32)))) hZ (wd95 hw) (wd11 hw) (by decide) (by decide)) (g := (mkF mi 21 #[.val (.ref t), .val (.ref u)] [(.int (0 : Int32)), (.int (1 : Int32)), (.ref u), (.int (1 : Int32)), (.ref t)])) rfl (by rw [hml]; rfl) (argsL := [(.ref t), (.int (1 : Int32)), (.ref u), (.int (1 : Int32)), (.int (0 : Int32))]) (rest := []) (lenOf pd_3 rfl) rfl (by show 2 * 0 + _ ≤ _; exact Nat.le_of_eq rfl) (hb hby d_jdk_43_method_24_code_21) (fun _ _ => ⟨rfl, eE, (by decide : 0 + 0 ≤ _), (by decide : 0 + 0 ≤ _)⟩)
  dsimp only [Pt.U, Pt.locs, Pt.cells, Pt.slots] at X105 l105 y105 z105 st105 hQ105
  subst l105 y105 z105
  obtain ⟨rfl, Nq105, ek105⟩ := hQ105
  have N105 := Fr.app N0 Nq105
  obtain ⟨fs, hr, hrun, hended, hW, hsame⟩ := X105.leave (v := some (.int (-1 : Int32))) (fun hq => by rw [Bd.returns] at hq; cases hq)
  refine ⟨_, _, pre0 _ ?_, hrun, hended, _, _, rfl, ?_, ⟨_, rfl⟩, hW, hsame.mono (by decide) (by decide)⟩
  · show Steps pg.tables ev below (s₁.setTop (mkF mi 0 #[.val (.ref t), .val (.ref u)] [])) _
    refine XS.aloadN X0.here hx rfl (hb hby d_jdk_43_method_24_code_0) rfl rfl ?_
    show Steps pg.tables ev below (s₁.setTop (mkF mi 1 #[.val (.ref t), .val (.ref u)] [(.ref u)])) _
    refine X0.arraylength hx (cell := cl101) (by rw [eE]; exact Ar101.1) (State.isArrayOf_alike hZ.alike Ar101.2.1) (g := (mkF mi 1 #[.val (.ref t), .val (.ref u)] [(.ref u)])) rfl (rest := []) rfl (hb hby d_jdk_43_method_24_code_1) _ ?_
    rw [len_of Sz101 Nn101]
    show Steps pg.tables ev below (s₁.setTop (mkF mi 2 #[.val (.ref t), .val (.ref u)] [(.int (1 : Int32))])) _
    refine XS.ifYes X0.here hx rfl (pc0 := 2) (pc' := 7) rfl (hb hby d_jdk_43_method_24_code_2) rfl ((if0 _ _).trans (feq (by decide : ¬ ((1 : Int32) = (0 : Int32)))).2) (by decide) (by decide) ?_
    refine XS.aloadN X0.here hx rfl (hb hby d_jdk_43_method_24_code_7) rfl rfl ?_
    show Steps pg.tables ev below (s₁.setTop (mkF mi 8 #[.val (.ref t), .val (.ref u)] [(.ref t)])) _
    refine X0.arraylength hx (cell := cl102) (by rw [eE]; exact Ar102.1) (State.isArrayOf_alike hZ.alike Ar102.2.1) (g := (mkF mi 8 #[.val (.ref t), .val (.ref u)] [(.ref t)])) rfl (rest := []) rfl (hb hby d_jdk_43_method_24_code_8) _ ?_
    rw [len_of Sz102 Nn102]
    show Steps pg.tables ev below (s₁.setTop (mkF mi 9 #[.val (.ref t), .val (.ref u)] [(.int (1 : Int32))])) _
    refine XS.ifYes X0.here hx rfl (pc0 := 9) (pc' := 14) rfl (hb hby d_jdk_43_method_24_code_9) rfl ((if0 _ _).trans (feq (by decide : ¬ ((1 : Int32) = (0 : Int32)))).2) (by decide) (by decide) ?_
    refine XS.aloadN X0.here hx rfl (hb hby d_jdk_43_method_24_code_14) rfl rfl ?_
    refine XS.aloadN X0.here hx rfl (hb hby d_jdk_43_method_24_code_15) rfl rfl ?_
    show Steps pg.tables ev below (s₁.setTop (mkF mi 16 #[.val (.ref t), .val (.ref u)] [(.ref t), (.ref t)])) _
    refine X0.arraylength hx (cell := cl103) (by rw [eE]; exact Ar103.1) (State.isArrayOf_alike hZ.alike Ar103.2.1) (g := (mkF mi 16 #[.val (.ref t), .val (.ref u)] [(.ref t), (.ref t)])) rfl (rest := [(.ref t)]) rfl (hb hby d_jdk_43_method_24_code_16) _ ?_
    rw [len_of Sz103 Nn103]
    show Steps pg.tables ev below (s₁.setTop (mkF mi 17 #[.val (.ref t), .val (.ref u)] [(.int (1 : Int32)), (.ref t)])) _
    refine XS.aloadN X0.here hx rfl (hb hby d_jdk_43_method_24_code_17) rfl rfl ?_
    refine XS.aloadN X0.here hx rfl (hb hby d_jdk_43_method_24_code_18) rfl rfl ?_
    show Steps pg.tables ev below (s₁.setTop (mkF mi 19 #[.val (.ref t), .val (.ref u)] [(.ref u), (.ref u), (.int (1 : Int32)), (.ref t)])) _
    refine X0.arraylength hx (cell := cl104) (by rw [eE]; exact Ar104.1) (State.isArrayOf_alike hZ.alike Ar104.2.1) (g := (mkF mi 19 #[.val (.ref t), .val (.ref u)] [(.ref u), (.ref u), (.int (1 : Int32)), (.ref t)])) rfl (rest := [(.ref u), (.int (1 : Int32)), (.ref t)]) rfl (hb hby d_jdk_43_method_24_code_19) _ ?_
    rw [len_of Sz104 Nn104]
    show Steps pg.tables ev below (s₁.setTop (mkF mi 20 #[.val (.ref t), .val (.ref u)] [(.int (1 : Int32)), (.ref u), (.int (1 : Int32)), (.ref t)])) _
    refine XS.iconst X0.here hx rfl (hb hby d_jdk_43_method_24_code_20) ?_
    show Steps pg.tables ev below (s₁.setTop (mkF mi 21 #[.val (.ref t), .val (.ref u)] [(.int (0 : Int32)), (.int (1 : Int32)), (.ref u), (.int (1 : Int32)), (.ref t)])) _
    refine st105 _ ?_
    show Steps pg.tables ev below (T105.setTop (mkF mi 24 #[.val (.ref t), .val (.ref u)] [(.int (-1 : Int32))])) _
    exact retI X105 hx Bd.returns (hb hby d_jdk_43_method_24_code_24) hr
  · show Q_ixc1_33 Z t u kt ku e0 hE n0 _ T105.heap _
    rw [ek105]
    exact ⟨rfl, N105, rfl⟩
theorem ef_ixs1_33 (mi : MethodId) (x : Addr) (y : Addr) : entryFrame mi #[(.ref x), (.ref y)] 3 = mkF mi 0 #[.val (.ref x), .val (.ref y), .unset] [] := by first | (simp [entryFrame, mkF, argsToLocals, Value.category]; done) | rfl
def Q_ixs1_33 (Z : State) (x : Addr) (y : Addr) (t : Addr) (u : Addr) (c0 : Int32) (zc : Int32) (hE : Heap) (n0 : Nat) (vv : Option Value) (hh : Heap) (LL : List Loc) : Prop := (vv = some (.int (-1 : Int32))) ∧ (Fr n0 LL) ∧ (hh = hE)
set_option maxRecDepth 65536 in
set_option maxHeartbeats 40000000 in
theorem rm_ixs1_33 (la : Launch) (Z : State) (a0 : Array Value) (hw : ∀ d ∈ tables_1, d.before a0 Z = true) (ws : List Jvm.Cond) (x : Addr) (y : Addr) (t : Addr) (u : Addr) (c0 : Int32) (zc : Int32) (hE : Heap) (n0 : Nat) (O : Old Z n0 hE) (P0_ : LStr Z hE x t ([c0] : List Int32)) (P1_ : LStr Z hE y u ([(33 : Int32)] : List Int32)) (D0_ : Sta Z Z.heap "java/lang/String" "COMPACT_STRINGS" "Z" (.int zc)) (h0 : ¬ ((c0.toInt8.toInt32) = (33 : Int32))) (hzc : ¬ (zc = (0 : Int32))) :
    MetFree la mn13 (head1 (Jvm.Cond.code mn13 jdk_42_method_84_code 3 (some .int) :: ws) ({ frames := 2, cells := 0, slots := 0, locals := 35 } : Room)) (fun aa UU => aa = #[(.ref x), (.ref y)] ∧ Z.Warmed39 UU.vm ∧ UU.heap = hE) (fun _ _ _ _ _ => True) (fun _ UU oo UV => ∃ vv LL, oo = .returned vv ∧ Q_ixs1_33 Z x y t u c0 zc hE n0 vv UV.heap LL ∧ FrameEnd UU oo UV LL ({ frames := 2, cells := 0, slots := 0, locals := 35 } : Room).cells ({ frames := 2, cells := 0, slots := 0, locals := 35 } : Room).slots) := by
  refine MetFree.of_bodySF (plainFor_of_name pn_java_lang_String) hisR ?_
  intro pg ev sb mi gs below me cd s₁ Bd hml0 hPt hKt
  obtain ⟨rfl, hZ, hh⟩ := hPt
  have hx := Bd.exec
  have hby := Bd.bytes
  have hml : cd.maxLocals = 3 := hml0
  have hown : sb.vm.findClass "java/lang/String" = some mi.cls := findClass_of_methodNamed Bd.named
  have hnm := (name_of_methodNamed Bd.named Bd.method).1
  have X0 : Stand pg la ev ({ frames := 2, cells := 0, slots := 0, locals := 35 } : Room) sb mi #[(.ref x), (.ref y)] below me cd s₁ [] 0 0 := Stand.of_body Bd
  have eE : s₁.heap = hE := by rw [← hh, Bd.state]; rfl
  have N0 := Fr.nil n0
  have pre0 : ∀ tt, Steps pg.tables ev below (s₁.setTop (mkF mi 0 #[.val (.ref x), .val (.ref y), .unset] [])) tt → Steps pg.tables ev below (s₁.setTop (entryFrame mi #[(.ref x), (.ref y)] 3)) tt := fun tt kk => castTop (ef_ixs1_33 mi x y) kk
  obtain ⟨sE101, sV101, sC101, ⟨kb101, sK101⟩, sb101, sl101⟩ := id P0_
  have sK101' : Arv Z hE t kb101 .byte (1 : Int32) [(.int (c0.toInt8.toInt32))] (.int (0 : Int32)) := sK101
  obtain ⟨sE102, sV102, sC102, ⟨kb102, sK102⟩, sb102, sl102⟩ := id P1_
  have sK102' : Arv Z hE u kb102 .byte (1 : Int32) [(.int (33 : Int32))] (.int (0 : Int32)) := sK102
  obtain ⟨cq103, kq103, q103a, q103b, q103c⟩ := isOf hZ eE sE101
  obtain ⟨v103, _, ⟨T103, L103, k103, n103⟩, -, X103, ⟨Lc103, hQ103, l103, y103, z103⟩, st103⟩ := X0.virtualBack hx (y := mn8) (z := mn8) hown (mvT hZ (wd80 hw)) (mvT hZ (wd81 hw)) (notFace_of_selects (args := #[]) (mvT hZ (wd83 hw))) (mvT hZ (wd83 hw)) (mvT hZ (wd82 hw)) (by decide) (backOf (W := 0) (rm_coder la Z a0 hw [] x zc hE n0 O sC101 D0_ (hzc : ¬ (zc = (0 : Int32)))) hZ (wd84 hw) (wd6 hw) (by decide) (by decide)) q103a q103c (g := (mkF mi 1 #[.val (.ref x), .val (.ref y), .unset] [(.ref x)])) rfl (by rw [hml]; rfl) (Steps.refl _) (argsL := []) (rest := []) (lenOf pd_4 rfl) rfl (by show 2 * 0 + _ ≤ _; exact Nat.le_of_eq rfl) (hb hby d_jdk_42_method_84_code_1) (fun _ _ => ⟨rfl, eE, (by decide : 0 + 0 ≤ _), (by decide : 0 + 0 ≤ _)⟩)
  dsimp only [Pt.U, Pt.locs, Pt.cells, Pt.slots] at X103 l103 y103 z103 st103 hQ103
  subst l103 y103 z103
  obtain ⟨rfl, Nq103, ek103⟩ := hQ103
  have N103 := Fr.app N0 Nq103
  obtain ⟨cq104, kq104, q104a, q104b, q104c⟩ := isOf hZ ek103 sE102
  obtain ⟨v104, _, ⟨T104, L104, k104, n104⟩, -, X104, ⟨Lc104, hQ104, l104, y104, z104⟩, st104⟩ := X103.virtualBack hx (y := mn8) (z := mn8) hown (mvT hZ (wd80 hw)) (mvT hZ (wd81 hw)) (notFace_of_selects (args := #[]) (mvT hZ (wd83 hw))) (mvT hZ (wd83 hw)) (mvT hZ (wd82 hw)) (by decide) (backOf (W := 1) (rm_coder la Z a0 hw [] y zc hE n0 O sC102 D0_ (hzc : ¬ (zc = (0 : Int32)))) hZ (wd84 hw) (wd6 hw) (by decide) (by decide)) q104a q104c (g := (mkF mi 7 #[.val (.ref x), .val (.ref y), .val (.int (0 : Int32))] [(.ref y), (.int (0 : Int32))])) rfl (by rw [hml]; rfl) (Steps.refl _) (argsL := []) (rest := [(.int (0 : Int32))]) (lenOf pd_4 rfl) rfl (by show 2 * 0 + _ ≤ _; exact Nat.le_of_eq rfl) (hb hby d_jdk_42_method_84_code_7) (fun _ _ => ⟨rfl, ek103, (by decide : 0 + 0 ≤ _), (by decide : 0 + 0 ≤ _)⟩)
  dsimp only [Pt.U, Pt.locs, Pt.cells, Pt.slots] at X104 l104 y104 z104 st104 hQ104
  subst l104 y104 z104
  obtain ⟨rfl, Nq104, ek104⟩ := hQ104
  have N104 := Fr.app N103 Nq104
  obtain ⟨cq105, kq105, q105a, q105b, q105c⟩ := isOf hZ ek104 sE101
  obtain ⟨v105, _, ⟨T105, L105, k105, n105⟩, -, X105, ⟨Lc105, hQ105, l105, y105, z105⟩, st105⟩ := X104.virtualBack hx (y := mn9) (z := mn9) hown (mvT hZ (wd85 hw)) (mvT hZ (wd86 hw)) (notFace_of_selects (args := #[]) (mvT hZ (wd88 hw))) (mvT hZ (wd88 hw)) (mvT hZ (wd87 hw)) (by decide) (backOf (W := 0) (rm_isl1 la Z a0 hw [] x zc hE n0 O sC101 D0_ (hzc : ¬ (zc = (0 : Int32)))) hZ (wd89 hw) (wd6 hw) (by decide) (by decide)) q105a q105c (g := (mkF mi 14 #[.val (.ref x), .val (.ref y), .val (.int (0 : Int32))] [(.ref x)])) rfl (by rw [hml]; rfl) (Steps.refl _) (argsL := []) (rest := []) (lenOf pd_5 rfl) rfl (by show 2 * 0 + _ ≤ _; exact Nat.le_of_eq rfl) (hb hby d_jdk_42_method_84_code_14) (fun _ _ => ⟨rfl, ek104, (by decide : 0 + 0 ≤ _), (by decide : 0 + 0 ≤ _)⟩)
  dsimp only [Pt.U, Pt.locs, Pt.cells, Pt.slots] at X105 l105 y105 z105 st105 hQ105
  subst l105 y105 z105
  obtain ⟨rfl, Nq105, ek105⟩ := hQ105
  have N105 := Fr.app N104 Nq105
  obtain ⟨T106, X106, e106, st106⟩ := getF X105 hx hZ hown (host := "") (Or.inl (wd26 hw)) Via.refl ek105 sV101 (g := (mkF mi 21 #[.val (.ref x), .val (.ref y), .val (.int (0 : Int32))] [(.ref x)])) rfl rfl (hb hby d_jdk_42_method_84_code_21)
  obtain ⟨T107, X107, e107, st107⟩ := getF X106 hx hZ hown (host := "") (Or.inl (wd26 hw)) Via.refl e106 sV102 (g := (mkF mi 25 #[.val (.ref x), .val (.ref y), .val (.int (0 : Int32))] [(.ref y), (.ref t)])) rfl rfl (hb hby d_jdk_42_method_84_code_25)
  obtain ⟨v108, _, ⟨T108, L108, k108, n108⟩, -, X108, ⟨Lc108, hQ108, l108, y108, z108⟩, st108⟩ := Jvm.LawKit.callS X107 hx (y := mn12) hown (mvT hZ (wd90 hw)) (mvT hZ (wd91 hw)) (mvT hZ (wd11 hw)) (mvT hZ (wd92 hw)) (by decide) (backOf (W := 0) (rm_ixc1_33 la Z a0 hw [] t u kb101 kb102 (c0.toInt8.toInt32) hE n0 O sK101' sK102' (h0 : ¬ ((c0.toInt8.toInt32) = (33 : Int32)))) hZ (wd92 hw) (wd11 hw) (by decide) (by decide)) (g := (mkF mi 28 #[.val (.ref x), .val (.ref y), .val (.int (0 : Int32))] [(.ref u), (.ref t)])) rfl (by rw [hml]; rfl) (argsL := [(.ref t), (.ref u)]) (rest := []) (lenOf pd_6 rfl) rfl (by show 2 * 0 + _ ≤ _; exact Nat.le_of_eq rfl) (hb hby d_jdk_42_method_84_code_28) (fun _ _ => ⟨rfl, e107, (by decide : 0 + 0 ≤ _), (by decide : 0 + 0 ≤ _)⟩)
  dsimp only [Pt.U, Pt.locs, Pt.cells, Pt.slots] at X108 l108 y108 z108 st108 hQ108
  subst l108 y108 z108
  obtain ⟨rfl, Nq108, ek108⟩ := hQ108
  have N108 := Fr.app N105 Nq108
  obtain ⟨fs, hr, hrun, hended, hW, hsame⟩ := X108.leave (v := some (.int (-1 : Int32))) (fun hq => by rw [Bd.returns] at hq; cases hq)
  refine ⟨_, _, pre0 _ ?_, hrun, hended, _, _, rfl, ?_, ⟨_, rfl⟩, hW, hsame.mono (by decide) (by decide)⟩
  · show Steps pg.tables ev below (s₁.setTop (mkF mi 0 #[.val (.ref x), .val (.ref y), .unset] [])) _
    refine XS.aloadN X0.here hx rfl (hb hby d_jdk_42_method_84_code_0) rfl rfl ?_
    show Steps pg.tables ev below (s₁.setTop (mkF mi 1 #[.val (.ref x), .val (.ref y), .unset] [(.ref x)])) _
    refine st103.trans ?_
    show Steps pg.tables ev below (T103.setTop (mkF mi 4 #[.val (.ref x), .val (.ref y), .unset] [(.int (0 : Int32))])) _
    refine XS.istoreN X103.here hx rfl (hb hby d_jdk_42_method_84_code_4) rfl (l' := #[.val (.ref x), .val (.ref y), .val (.int (0 : Int32))]) rfl ?_
    refine XS.iloadN X103.here hx rfl (hb hby d_jdk_42_method_84_code_5) rfl ?_
    refine XS.aloadN X103.here hx rfl (hb hby d_jdk_42_method_84_code_6) rfl rfl ?_
    show Steps pg.tables ev below (T103.setTop (mkF mi 7 #[.val (.ref x), .val (.ref y), .val (.int (0 : Int32))] [(.ref y), (.int (0 : Int32))])) _
    refine st104.trans ?_
    show Steps pg.tables ev below (T104.setTop (mkF mi 10 #[.val (.ref x), .val (.ref y), .val (.int (0 : Int32))] [(.int (0 : Int32)), (.int (0 : Int32))])) _
    refine XS.icmpNo X104.here hx rfl (hb hby d_jdk_42_method_84_code_10) rfl (teq (rfl : (0 : Int32) = (0 : Int32))).2 ?_
    refine XS.aloadN X104.here hx rfl (hb hby d_jdk_42_method_84_code_13) rfl rfl ?_
    show Steps pg.tables ev below (T104.setTop (mkF mi 14 #[.val (.ref x), .val (.ref y), .val (.int (0 : Int32))] [(.ref x)])) _
    refine st105.trans ?_
    show Steps pg.tables ev below (T105.setTop (mkF mi 17 #[.val (.ref x), .val (.ref y), .val (.int (0 : Int32))] [(.int (1 : Int32))])) _
    refine XS.ifNo X105.here hx rfl (hb hby d_jdk_42_method_84_code_17) rfl ((if0 _ _).trans (feq (by decide : ¬ ((1 : Int32) = (0 : Int32)))).1) ?_
    refine XS.aloadN X105.here hx rfl (hb hby d_jdk_42_method_84_code_20) rfl rfl ?_
    show Steps pg.tables ev below (T105.setTop (mkF mi 21 #[.val (.ref x), .val (.ref y), .val (.int (0 : Int32))] [(.ref x)])) _
    refine st106 _ ?_
    show Steps pg.tables ev below (T106.setTop (mkF mi 24 #[.val (.ref x), .val (.ref y), .val (.int (0 : Int32))] [(.ref t)])) _
    refine XS.aloadN X106.here hx rfl (hb hby d_jdk_42_method_84_code_24) rfl rfl ?_
    show Steps pg.tables ev below (T106.setTop (mkF mi 25 #[.val (.ref x), .val (.ref y), .val (.int (0 : Int32))] [(.ref y), (.ref t)])) _
    refine st107 _ ?_
    show Steps pg.tables ev below (T107.setTop (mkF mi 28 #[.val (.ref x), .val (.ref y), .val (.int (0 : Int32))] [(.ref u), (.ref t)])) _
    refine st108 _ ?_
    show Steps pg.tables ev below (T108.setTop (mkF mi 31 #[.val (.ref x), .val (.ref y), .val (.int (0 : Int32))] [(.int (-1 : Int32))])) _
    refine XS.goto X108.here hx rfl (pc0 := 31) (pc' := 45) rfl (hb hby d_jdk_42_method_84_code_31) (by decide) (by decide) ?_
    show Steps pg.tables ev below (T108.setTop (mkF mi 45 #[.val (.ref x), .val (.ref y), .val (.int (0 : Int32))] [(.int (-1 : Int32))])) _
    exact retI X108 hx Bd.returns (hb hby d_jdk_42_method_84_code_45) hr
  · show Q_ixs1_33 Z x y t u c0 zc hE n0 _ T108.heap _
    rw [ek108]
    exact ⟨rfl, N108, rfl⟩
theorem ef_con1_33 (mi : MethodId) (x : Addr) (y : Addr) : entryFrame mi #[(.ref x), (.ref y)] 2 = mkF mi 0 #[.val (.ref x), .val (.ref y)] [] := by first | (simp [entryFrame, mkF, argsToLocals, Value.category]; done) | rfl
def Q_con1_33 (Z : State) (x : Addr) (y : Addr) (t : Addr) (u : Addr) (c0 : Int32) (zc : Int32) (hE : Heap) (n0 : Nat) (vv : Option Value) (hh : Heap) (LL : List Loc) : Prop := (vv = some (.int (0 : Int32))) ∧ (Fr n0 LL) ∧ (hh = hE)
set_option maxRecDepth 65536 in
set_option maxHeartbeats 40000000 in
theorem rm_con1_33 (la : Launch) (Z : State) (a0 : Array Value) (hw : ∀ d ∈ tables_1, d.before a0 Z = true) (ws : List Jvm.Cond) (x : Addr) (y : Addr) (t : Addr) (u : Addr) (c0 : Int32) (zc : Int32) (hE : Heap) (n0 : Nat) (O : Old Z n0 hE) (P0_ : LStr Z hE x t ([c0] : List Int32)) (P1_ : LStr Z hE y u ([(33 : Int32)] : List Int32)) (D0_ : Sta Z Z.heap "java/lang/String" "COMPACT_STRINGS" "Z" (.int zc)) (h0 : ¬ ((c0.toInt8.toInt32) = (33 : Int32))) (hzc : ¬ (zc = (0 : Int32))) :
    MetFree la mn15 (head1 (Jvm.Cond.code mn15 jdk_42_method_97_code 2 (some .boolean) :: ws) ({ frames := 3, cells := 0, slots := 0, locals := 49 } : Room)) (fun aa UU => aa = #[(.ref x), (.ref y)] ∧ Z.Warmed39 UU.vm ∧ UU.heap = hE) (fun _ _ _ _ _ => True) (fun _ UU oo UV => ∃ vv LL, oo = .returned vv ∧ Q_con1_33 Z x y t u c0 zc hE n0 vv UV.heap LL ∧ FrameEnd UU oo UV LL ({ frames := 3, cells := 0, slots := 0, locals := 49 } : Room).cells ({ frames := 3, cells := 0, slots := 0, locals := 49 } : Room).slots) := by
  refine MetFree.of_bodySF (plainFor_of_name pn_java_lang_String) hisR ?_
  intro pg ev sb mi gs below me cd s₁ Bd hml0 hPt hKt
  obtain ⟨rfl, hZ, hh⟩ := hPt
  have hx := Bd.exec
  have hby := Bd.bytes
  have hml : cd.maxLocals = 2 := hml0
  have hown : sb.vm.findClass "java/lang/String" = some mi.cls := findClass_of_methodNamed Bd.named
  have hnm := (name_of_methodNamed Bd.named Bd.method).1
  have X0 : Stand pg la ev ({ frames := 3, cells := 0, slots := 0, locals := 49 } : Room) sb mi #[(.ref x), (.ref y)] below me cd s₁ [] 0 0 := Stand.of_body Bd
  have eE : s₁.heap = hE := by rw [← hh, Bd.state]; rfl
  have N0 := Fr.nil n0
  have pre0 : ∀ tt, Steps pg.tables ev below (s₁.setTop (mkF mi 0 #[.val (.ref x), .val (.ref y)] [])) tt → Steps pg.tables ev below (s₁.setTop (entryFrame mi #[(.ref x), (.ref y)] 2)) tt := fun tt kk => castTop (ef_con1_33 mi x y) kk
  obtain ⟨cq101, kq101, q101a, q101b, q101c⟩ := isOf hZ eE (P1_).1
  obtain ⟨v101, _, ⟨T101, L101, k101, n101⟩, -, X101, ⟨Lc101, hQ101, l101, y101, z101⟩, st101⟩ := X0.interfaceBack hx (xi := mn14) (y := mn7) hown (mvT hZ (wd66 hw)) (mvT hZ (wd67 hw)) (mvT hZ (wd68 hw)) (mvT hZ (wd69 hw)) (mvT hZ (wd70 hw)) (mvT hZ (wd71 hw)) (mvT hZ (wd72 hw)) (mvT hZ (wd73 hw)) (by decide) (backOf (W := 1) (rm_sts la Z a0 hw [] y hE n0 O) hZ (wd74 hw) (wd6 hw) (by decide) (by decide)) q101a q101b q101c (g := (mkF mi 2 #[.val (.ref x), .val (.ref y)] [(.ref y), (.ref x)])) rfl (by rw [hml]; rfl) (Steps.refl _) (argsL := []) (rest := [(.ref x)]) (lenOf pd_7 rfl) rfl (by show 2 * 0 + _ ≤ _; exact Nat.le_of_eq rfl) (hb hby d_jdk_42_method_97_code_2) (fun _ _ => ⟨rfl, eE, (by decide : 0 + 0 ≤ _), (by decide : 0 + 0 ≤ _)⟩)
  dsimp only [Pt.U, Pt.locs, Pt.cells, Pt.slots] at X101 l101 y101 z101 st101 hQ101
  subst l101 y101 z101
  obtain ⟨rfl, Nq101, ek101⟩ := hQ101
  have N101 := Fr.app N0 Nq101
  obtain ⟨cq102, kq102, q102a, q102b, q102c⟩ := isOf hZ ek101 (P0_).1
  obtain ⟨v102, _, ⟨T102, L102, k102, n102⟩, -, X102, ⟨Lc102, hQ102, l102, y102, z102⟩, st102⟩ := X101.virtualBack hx (y := mn13) (z := mn13) hown (mvT hZ (wd75 hw)) (mvT hZ (wd76 hw)) (notFace_of_selects (args := #[]) (mvT hZ (wd78 hw))) (mvT hZ (wd78 hw)) (mvT hZ (wd77 hw)) (by decide) (backOf (W := 0) (rm_ixs1_33 la Z a0 hw [] x y t u c0 zc hE n0 O P0_ P1_ D0_ (h0 : ¬ ((c0.toInt8.toInt32) = (33 : Int32))) (hzc : ¬ (zc = (0 : Int32)))) hZ (wd79 hw) (wd6 hw) (by decide) (by decide)) q102a q102c (g := (mkF mi 7 #[.val (.ref x), .val (.ref y)] [(.ref y), (.ref x)])) rfl (by rw [hml]; rfl) (Steps.refl _) (argsL := [(.ref y)]) (rest := []) (lenOf pd_8 rfl) rfl (by show 2 * 0 + _ ≤ _; exact Nat.le_of_eq rfl) (hb hby d_jdk_42_method_97_code_7) (fun _ _ => ⟨rfl, ek101, (by decide : 0 + 0 ≤ _), (by decide : 0 + 0 ≤ _)⟩)
  dsimp only [Pt.U, Pt.locs, Pt.cells, Pt.slots] at X102 l102 y102 z102 st102 hQ102
  subst l102 y102 z102
  obtain ⟨rfl, Nq102, ek102⟩ := hQ102
  have N102 := Fr.app N101 Nq102
  obtain ⟨fs, hr, hrun, hended, hW, hsame⟩ := X102.leave (v := some (.int (0 : Int32))) (fun hq => by rw [Bd.returns] at hq; cases hq)
  refine ⟨_, _, pre0 _ ?_, hrun, hended, _, _, rfl, ?_, ⟨_, rfl⟩, hW, hsame.mono (by decide) (by decide)⟩
  · show Steps pg.tables ev below (s₁.setTop (mkF mi 0 #[.val (.ref x), .val (.ref y)] [])) _
    refine XS.aloadN X0.here hx rfl (hb hby d_jdk_42_method_97_code_0) rfl rfl ?_
    refine XS.aloadN X0.here hx rfl (hb hby d_jdk_42_method_97_code_1) rfl rfl ?_
    show Steps pg.tables ev below (s₁.setTop (mkF mi 2 #[.val (.ref x), .val (.ref y)] [(.ref y), (.ref x)])) _
    refine st101.trans ?_
    show Steps pg.tables ev below (T101.setTop (mkF mi 7 #[.val (.ref x), .val (.ref y)] [(.ref y), (.ref x)])) _
    refine st102.trans ?_
    show Steps pg.tables ev below (T102.setTop (mkF mi 10 #[.val (.ref x), .val (.ref y)] [(.int (-1 : Int32))])) _
    refine XS.ifYes X102.here hx rfl (pc0 := 10) (pc' := 17) rfl (hb hby d_jdk_42_method_97_code_10) rfl ((if0 _ _).trans (tlt (by decide : (-1 : Int32) < (0 : Int32))).1) (by decide) (by decide) ?_
    refine XS.iconst X102.here hx rfl (hb hby d_jdk_42_method_97_code_17) ?_
    show Steps pg.tables ev below (T102.setTop (mkF mi 18 #[.val (.ref x), .val (.ref y)] [(.int (0 : Int32))])) _
    exact retN X102 hx (t := .boolean) Bd.returns (by simp) (hb hby d_jdk_42_method_97_code_18) hr
  · show Q_con1_33 Z x y t u c0 zc hE n0 _ T102.heap _
    rw [ek102]
    exact ⟨rfl, N102, rfl⟩
theorem d_prog_9_method_9_code_0 : decode prog_9_method_9_code 0 = .ok (.aload_n 1, 1) := by decide +kernel
theorem d_prog_9_method_9_code_1 : decode prog_9_method_9_code 1 = .ok (.ifnull 61, 3) := by decide +kernel
theorem d_prog_9_method_9_code_4 : decode prog_9_method_9_code 4 = .ok (.aload_n 1, 1) := by decide +kernel
theorem d_prog_9_method_9_code_5 : decode prog_9_method_9_code 5 = .ok (.invokevirtual 121, 3) := by decide +kernel
theorem d_prog_9_method_9_code_8 : decode prog_9_method_9_code 8 = .ok (.ifCond .ne 21, 3) := by decide +kernel
theorem d_prog_9_method_9_code_11 : decode prog_9_method_9_code 11 = .ok (.aload_n 1, 1) := by decide +kernel
theorem d_prog_9_method_9_code_12 : decode prog_9_method_9_code 12 = .ok (.ldc 125, 2) := by decide +kernel
theorem d_prog_9_method_9_code_14 : decode prog_9_method_9_code 14 = .ok (.invokevirtual 127, 3) := by decide +kernel
theorem d_prog_9_method_9_code_17 : decode prog_9_method_9_code 17 = .ok (.ifCond .ne 12, 3) := by decide +kernel
theorem d_prog_9_method_9_code_20 : decode prog_9_method_9_code 20 = .ok (.aload_n 1, 1) := by decide +kernel
theorem d_prog_9_method_9_code_21 : decode prog_9_method_9_code 21 = .ok (.ldc 131, 2) := by decide +kernel
theorem d_prog_9_method_9_code_23 : decode prog_9_method_9_code 23 = .ok (.invokevirtual 127, 3) := by decide +kernel
theorem d_prog_9_method_9_code_26 : decode prog_9_method_9_code 26 = .ok (.ifCond .eq 36, 3) := by decide +kernel
theorem d_prog_9_method_9_code_62 : decode prog_9_method_9_code 62 = .ok (.return_, 1) := by decide +kernel
theorem pd_9 : parseMethodDescriptor "(Ljava/lang/CharSequence;)Z" = some ⟨[(.object "java/lang/CharSequence")], some .boolean⟩ := by decide +kernel
theorem pn_com_example_beanloft_beanloft_naming_GlobalName : plainName "com/example/beanloft/beanloft/naming/GlobalName" = true := by first | (simp [plainName, overriddenIn]; done) | decide +kernel
theorem ef_seg1 (mi : MethodId) (k : Addr) (x : Addr) (m : Addr) (b : Addr) : entryFrame mi #[(.ref k), (.ref x), (.ref m), (.ref b)] 4 = mkF mi 0 #[.val (.ref k), .val (.ref x), .val (.ref m), .val (.ref b)] [] := by first | (simp [entryFrame, mkF, argsToLocals, Value.category]; done) | rfl
def Q_seg1 (Z : State) (k : Addr) (x : Addr) (m : Addr) (b : Addr) (t : Addr) (c0 : Int32) (zc : Int32) (hE : Heap) (n0 : Nat) (vv : Option Value) (hh : Heap) (LL : List Loc) : Prop := (vv = none) ∧ (Fr n0 LL) ∧ (Keep hE hh [])
set_option maxRecDepth 65536 in
set_option maxHeartbeats 40000000 in
theorem rm_seg1 (la : Launch) (Z : State) (a0 : Array Value) (hw : ∀ d ∈ tables_1, d.before a0 Z = true) (ws : List Jvm.Cond) (k : Addr) (x : Addr) (m : Addr) (b : Addr) (t : Addr) (c0 : Int32) (zc : Int32) (hE : Heap) (n0 : Nat) (O : Old Z n0 hE) (P0_ : LStr Z hE x t ([c0] : List Int32)) (D0_ : Sta Z Z.heap "java/lang/String" "COMPACT_STRINGS" "Z" (.int zc)) (h47_c0 : ¬ ((c0.toInt8.toInt32) = (47 : Int32))) (h33_c0 : ¬ ((c0.toInt8.toInt32) = (33 : Int32))) (hzc : ¬ (zc = (0 : Int32))) :
    MetFree la mn16 (head1 (Jvm.Cond.code mn16 prog_9_method_9_code 4 none :: ws) ({ frames := 4, cells := 4, slots := 16, locals := 62 } : Room)) (fun aa UU => aa = #[(.ref k), (.ref x), (.ref m), (.ref b)] ∧ Z.Warmed39 UU.vm ∧ UU.heap = hE ∧ CHv Z ELs UU.vm hE ∧ True) (fun _ _ _ _ _ => True) (fun _ UU oo UV => ∃ vv LL, oo = .returned vv ∧ Q_seg1 Z k x m b t c0 zc hE n0 vv UV.heap LL ∧ (CHr Z ELs UU.vm UU.heap UV.vm UV.heap ∧ ∃ ly0 lu0 ly1 lu1 : Addr, Lit (Z.setVm UV.vm) "com/example/beanloft/beanloft/naming/GlobalName" 125 ly0 ∧ LStr Z UV.heap ly0 lu0 ([(47 : Int32)] : List Int32) ∧ Lit (Z.setVm UV.vm) "com/example/beanloft/beanloft/naming/GlobalName" 131 ly1 ∧ LStr Z UV.heap ly1 lu1 ([(33 : Int32)] : List Int32)) ∧ ReturnedEndW UU oo UV LL ({ frames := 4, cells := 4, slots := 16, locals := 62 } : Room).cells ({ frames := 4, cells := 4, slots := 16, locals := 62 } : Room).slots) := by
  refine MetFree.of_bodySF (plainFor_of_name pn_com_example_beanloft_beanloft_naming_GlobalName) hisR ?_
  intro pg ev sb mi gs below me cd s₁ Bd hml0 hPt hKt
  obtain ⟨rfl, hZ, hh, hH, -⟩ := hPt
  have hx := Bd.exec
  have hby := Bd.bytes
  have hml : cd.maxLocals = 4 := hml0
  have hown : sb.vm.findClass "com/example/beanloft/beanloft/naming/GlobalName" = some mi.cls := findClass_of_methodNamed Bd.named
  have hnm := (name_of_methodNamed Bd.named Bd.method).1
  have X0 : Stand pg la ev ({ frames := 4, cells := 4, slots := 16, locals := 62 } : Room) (sb.setVm sb.vm) mi #[(.ref k), (.ref x), (.ref m), (.ref b)] below me cd s₁ [] 0 0 := Stand.of_body Bd
  have eE : s₁.heap = hE := by rw [← hh, Bd.state]; rfl
  have N0 := Fr.nil n0
  have pre0 : ∀ tt, Steps pg.tables ev below (s₁.setTop (mkF mi 0 #[.val (.ref k), .val (.ref x), .val (.ref m), .val (.ref b)] [])) tt → Steps pg.tables ev below (s₁.setTop (entryFrame mi #[(.ref k), (.ref x), (.ref m), (.ref b)] 4)) tt := fun tt kk => castTop (ef_seg1 mi k x m b) kk
  have hS : sb.Since sb.vm 0 := (State.WarmedH.refl sb).since 0
  have hk : 0 ≤ hE.size := Nat.zero_le _
  have hEL := own_EW hw
  have C0 := CHr.refl hH
  obtain ⟨cq101, kq101, q101a, q101b, q101c⟩ := isOf hZ eE (P0_).1
  obtain ⟨v101, _, ⟨T101, L101, k101, n101⟩, -, X101, ⟨Lc101, hQ101, l101, y101, z101⟩, st101⟩ := X0.virtualBack hx (y := mn10) (z := mn10) hown (mvT hZ (wd55 hw)) (mvT hZ (wd56 hw)) (notFace_of_selects (args := #[]) (mvT hZ (wd58 hw))) (mvT hZ (wd58 hw)) (mvT hZ (wd57 hw)) (by decide) (backOf (W := 0) (rm_emp1 la Z a0 hw [] x t c0 hE n0 O P0_) hZ (wd59 hw) (wd6 hw) (by decide) (by decide)) q101a q101c (g := (mkF mi 5 #[.val (.ref k), .val (.ref x), .val (.ref m), .val (.ref b)] [(.ref x)])) rfl (by rw [hml]; rfl) (Steps.refl _) (argsL := []) (rest := []) (lenOf pd_5 rfl) rfl (by show 2 * 0 + _ ≤ _; exact Nat.le_of_eq rfl) (hb hby d_prog_9_method_9_code_5) (fun _ _ => ⟨rfl, eE, (by decide : 0 + 0 ≤ _), (by decide : 0 + 0 ≤ _)⟩)
  dsimp only [Pt.U, Pt.locs, Pt.cells, Pt.slots] at X101 l101 y101 z101 st101 hQ101
  subst l101 y101 z101
  obtain ⟨rfl, Nq101, ek101⟩ := hQ101
  have N101 := Fr.app N0 Nq101
  have pre103 : ∀ tt, Steps pg.tables ev below (T101.setTop (mkF mi 12 #[.val (.ref k), .val (.ref x), .val (.ref m), .val (.ref b)] [(.ref x)])) tt → Steps pg.tables ev below (s₁.setTop (entryFrame mi #[(.ref k), (.ref x), (.ref m), (.ref b)] 4)) tt := fun tt kk => pre0 _ (by
    show Steps pg.tables ev below (s₁.setTop (mkF mi 0 #[.val (.ref k), .val (.ref x), .val (.ref m), .val (.ref b)] [])) _
    refine XS.aloadN X0.here hx rfl (hb hby d_prog_9_method_9_code_0) rfl rfl ?_
    refine XS.ifnullNo X0.here hx rfl (hb hby d_prog_9_method_9_code_1) rfl ?_
    refine XS.aloadN X0.here hx rfl (hb hby d_prog_9_method_9_code_4) rfl rfl ?_
    show Steps pg.tables ev below (s₁.setTop (mkF mi 5 #[.val (.ref k), .val (.ref x), .val (.ref m), .val (.ref b)] [(.ref x)])) _
    refine st101.trans ?_
    show Steps pg.tables ev below (T101.setTop (mkF mi 8 #[.val (.ref k), .val (.ref x), .val (.ref m), .val (.ref b)] [(.int (0 : Int32))])) _
    refine XS.ifNo X101.here hx rfl (hb hby d_prog_9_method_9_code_8) rfl ((if0 _ _).trans (teq (rfl : (0 : Int32) = (0 : Int32))).2) ?_
    refine XS.aloadN X101.here hx rfl (hb hby d_prog_9_method_9_code_11) rfl rfl ?_
    exact kk)
  obtain ⟨a102, T102, h102, k102, d102, kc102, X102, e102, E102, hs104, hk105, hZ, hown, lE102, lC102, lV102, lA102, -, -, c102, lt106, -, st102⟩ := ldcCH (s := sb.setVm sb.vm) X101 hx hZ hown (wd60 hw) (own_wS hw) ek101 ((State.WarmedH.refl (sb.setVm sb.vm)).since 0) (Nat.zero_le _) hEL (by decide +kernel) C0.1 (vs := ([(47 : Int32)] : List Int32).map fun c => Value.int c.toInt8.toInt32) (z := Int32.ofNat ([(47 : Int32)] : List Int32).length) (by decide +kernel) (by decide) (by decide) (g := (mkF mi 12 #[.val (.ref k), .val (.ref x), .val (.ref m), .val (.ref b)] [(.ref x)])) rfl (hb hby d_prog_9_method_9_code_12) (n := 4) (by decide) (by decide) (by decide) (by decide)
  have X102 := own_restand X102
  have hS := hS.trans (⟨hs104.1, hs104.2.mono hk105⟩ : (sb.setVm sb.vm).Since T102.vm h102.size) (Nat.le_trans hk E102.1)
  have hk : h102.size ≤ h102.size := Nat.le_refl _
  have C107 := CHr.trans C0 c102
  have s108 : LStr Z h102 a102 d102 ([(47 : Int32)] : List Int32) := ⟨lE102, lV102, lC102, ⟨_, lA102⟩, (by decide), (by decide)⟩
  have O109 : Old Z n0 h102 := (O.ext E102)
  have f110 : LStr Z h102 x t ([c0] : List Int32) := (P0_.ext E102)
  obtain ⟨cq111, kq111, q111a, q111b, q111c⟩ := isOf hZ e102 (f110).1
  obtain ⟨v111, _, ⟨T111, L111, k111, n111⟩, -, X111, ⟨Lc111, hQ111, l111, y111, z111⟩, st111⟩ := X102.virtualBack hx (y := mn15) (z := mn15) hown (mvT hZ (wd61 hw)) (mvT hZ (wd62 hw)) (notFace_of_selects (args := #[]) (mvT hZ (wd64 hw))) (mvT hZ (wd64 hw)) (mvT hZ (wd63 hw)) (by decide) (backOf (W := 0) (rm_con1_47 la Z a0 hw [] x a102 t d102 c0 zc h102 n0 O109 f110 s108 D0_ (h47_c0 : ¬ ((c0.toInt8.toInt32) = (47 : Int32))) (hzc : ¬ (zc = (0 : Int32)))) hZ (wd65 hw) (wd6 hw) (by decide) (by decide)) q111a q111c (g := (mkF mi 14 #[.val (.ref k), .val (.ref x), .val (.ref m), .val (.ref b)] [(.ref a102), (.ref x)])) rfl (by rw [hml]; rfl) (Steps.refl _) (argsL := [(.ref a102)]) (rest := []) (lenOf pd_9 rfl) rfl (by show 2 * 0 + _ ≤ _; exact Nat.le_of_eq rfl) (hb hby d_prog_9_method_9_code_14) (fun _ _ => ⟨rfl, e102, (by decide : 2 + 0 ≤ _), (by decide : 8 + 0 ≤ _)⟩)
  dsimp only [Pt.U, Pt.locs, Pt.cells, Pt.slots] at X111 l111 y111 z111 st111 hQ111
  subst l111 y111 z111
  obtain ⟨rfl, Nq111, ek111⟩ := hQ111
  have N111 := Fr.app N101 Nq111
  have pre113 : ∀ tt, Steps pg.tables ev below (T111.setTop (mkF mi 21 #[.val (.ref k), .val (.ref x), .val (.ref m), .val (.ref b)] [(.ref x)])) tt → Steps pg.tables ev below (s₁.setTop (entryFrame mi #[(.ref k), (.ref x), (.ref m), (.ref b)] 4)) tt := fun tt kk => pre103 _ (by
    show Steps pg.tables ev below (T101.setTop (mkF mi 12 #[.val (.ref k), .val (.ref x), .val (.ref m), .val (.ref b)] [(.ref x)])) _
    refine st102 _ ?_
    show Steps pg.tables ev below (T102.setTop (mkF mi 14 #[.val (.ref k), .val (.ref x), .val (.ref m), .val (.ref b)] [(.ref a102), (.ref x)])) _
    refine st111.trans ?_
    show Steps pg.tables ev below (T111.setTop (mkF mi 17 #[.val (.ref k), .val (.ref x), .val (.ref m), .val (.ref b)] [(.int (0 : Int32))])) _
    refine XS.ifNo X111.here hx rfl (hb hby d_prog_9_method_9_code_17) rfl ((if0 _ _).trans (teq (rfl : (0 : Int32) = (0 : Int32))).2) ?_
    refine XS.aloadN X111.here hx rfl (hb hby d_prog_9_method_9_code_20) rfl rfl ?_
    exact kk)
  obtain ⟨a112, T112, h112, k112, d112, kc112, X112, e112, E112, hs114, hk115, hZ, hown, lE112, lC112, lV112, lA112, -, -, c112, lt116, -, st112⟩ := ldcCH (s := sb.setVm T102.vm) X111 hx hZ hown (wd96 hw) (own_wS hw) ek111 ((State.WarmedH.refl (sb.setVm T102.vm)).since 0) (Nat.zero_le _) hEL (by decide +kernel) C107.1 (vs := ([(33 : Int32)] : List Int32).map fun c => Value.int c.toInt8.toInt32) (z := Int32.ofNat ([(33 : Int32)] : List Int32).length) (by decide +kernel) (by decide) (by decide) (g := (mkF mi 21 #[.val (.ref k), .val (.ref x), .val (.ref m), .val (.ref b)] [(.ref x)])) rfl (hb hby d_prog_9_method_9_code_21) (n := 4) (by decide) (by decide) (by decide) (by decide)
  have X112 := own_restand X112
  have hS := hS.trans (⟨hs114.1, hs114.2.mono hk115⟩ : (sb.setVm T102.vm).Since T112.vm h112.size) (Nat.le_trans hk E112.1)
  have hk : h112.size ≤ h112.size := Nat.le_refl _
  have lt117 := Lit.stays (s := sb) lt106 hs114.1
  have C118 := CHr.trans C107 c112
  have s119 : LStr Z h112 a112 d112 ([(33 : Int32)] : List Int32) := ⟨lE112, lV112, lC112, ⟨_, lA112⟩, (by decide), (by decide)⟩
  have O120 : Old Z n0 h112 := (O109.ext E112)
  have f121 : LStr Z h112 x t ([c0] : List Int32) := (f110.ext E112)
  obtain ⟨cq122, kq122, q122a, q122b, q122c⟩ := isOf hZ e112 (f121).1
  obtain ⟨v122, _, ⟨T122, L122, k122, n122⟩, -, X122, ⟨Lc122, hQ122, l122, y122, z122⟩, st122⟩ := X112.virtualBack hx (y := mn15) (z := mn15) hown (mvT hZ (wd61 hw)) (mvT hZ (wd62 hw)) (notFace_of_selects (args := #[]) (mvT hZ (wd64 hw))) (mvT hZ (wd64 hw)) (mvT hZ (wd63 hw)) (by decide) (backOf (W := 0) (rm_con1_33 la Z a0 hw [] x a112 t d112 c0 zc h112 n0 O120 f121 s119 D0_ (h33_c0 : ¬ ((c0.toInt8.toInt32) = (33 : Int32))) (hzc : ¬ (zc = (0 : Int32)))) hZ (wd65 hw) (wd6 hw) (by decide) (by decide)) q122a q122c (g := (mkF mi 23 #[.val (.ref k), .val (.ref x), .val (.ref m), .val (.ref b)] [(.ref a112), (.ref x)])) rfl (by rw [hml]; rfl) (Steps.refl _) (argsL := [(.ref a112)]) (rest := []) (lenOf pd_9 rfl) rfl (by show 2 * 0 + _ ≤ _; exact Nat.le_of_eq rfl) (hb hby d_prog_9_method_9_code_23) (fun _ _ => ⟨rfl, e112, (by decide : 4 + 0 ≤ _), (by decide : 16 + 0 ≤ _)⟩)
  dsimp only [Pt.U, Pt.locs, Pt.cells, Pt.slots] at X122 l122 y122 z122 st122 hQ122
  subst l122 y122 z122
  obtain ⟨rfl, Nq122, ek122⟩ := hQ122
  have N122 := Fr.app N111 Nq122
  obtain ⟨fs, hr, hrun, hended, hWe⟩ := X122.leaveW hS (show _ ≤ T122.heap.size by rw [ek122]; exact hk) (v := none) (fun _ => rfl)
  refine ⟨_, _, pre113 _ ?_, hrun, hended, _, _, rfl, ?_, ?_, hWe.1, hWe.2.1, hWe.2.2.1, hWe.2.2.2.mono (by decide) (by decide)⟩
  · show Steps pg.tables ev below (T111.setTop (mkF mi 21 #[.val (.ref k), .val (.ref x), .val (.ref m), .val (.ref b)] [(.ref x)])) _
    refine st112 _ ?_
    show Steps pg.tables ev below (T112.setTop (mkF mi 23 #[.val (.ref k), .val (.ref x), .val (.ref m), .val (.ref b)] [(.ref a112), (.ref x)])) _
    refine st122.trans ?_
    show Steps pg.tables ev below (T122.setTop (mkF mi 26 #[.val (.ref k), .val (.ref x), .val (.ref m), .val (.ref b)] [(.int (0 : Int32))])) _
    refine XS.ifYes X122.here hx rfl (pc0 := 26) (pc' := 62) rfl (hb hby d_prog_9_method_9_code_26) rfl ((if0 _ _).trans (teq (rfl : (0 : Int32) = (0 : Int32))).1) (by decide) (by decide) ?_
    show Steps pg.tables ev below (T122.setTop (mkF mi 62 #[.val (.ref k), .val (.ref x), .val (.ref m), .val (.ref b)] [])) _
    exact X122.returnOut hx Bd.returns (hb hby d_prog_9_method_9_code_62) hr
  · show Q_seg1 Z k x m b t c0 zc hE n0 _ T122.heap _
    rw [ek122]
    exact ⟨rfl, N122, (((Keep.refl hE []).ext E102).ext E112)⟩
  have f123 : LStr Z h112 a102 d102 ([(47 : Int32)] : List Int32) := (s108.ext E112)
  · show CHr Z ELs sb.vm sb.heap T122.vm T122.heap ∧ ∃ ly0 lu0 ly1 lu1 : Addr, Lit (Z.setVm T122.vm) "com/example/beanloft/beanloft/naming/GlobalName" 125 ly0 ∧ LStr Z T122.heap ly0 lu0 ([(47 : Int32)] : List Int32) ∧ Lit (Z.setVm T122.vm) "com/example/beanloft/beanloft/naming/GlobalName" 131 ly1 ∧ LStr Z T122.heap ly1 lu1 ([(33 : Int32)] : List Int32)
    rw [hh, ek122]
    exact ⟨CHr.trans C118 (CHv.at X122 hZ hEL C118.1), a102, d102, a112, d112, Lit.stays (s := sb) lt117 (X122.warmed.since 0).1, f123, Lit.stays (s := sb) lt116 (X122.warmed.since 0).1, s119⟩
theorem ef_seg1L (mi : MethodId) (k : Addr) (x : Addr) (m : Addr) (b : Addr) : entryFrame mi #[(.ref k), (.ref x), (.ref m), (.ref b)] 4 = mkF mi 0 #[.val (.ref k), .val (.ref x), .val (.ref m), .val (.ref b)] [] := by first | (simp [entryFrame, mkF, argsToLocals, Value.category]; done) | rfl
def Q_seg1L (Z : State) (k : Addr) (x : Addr) (m : Addr) (b : Addr) (t : Addr) (y47 : Addr) (u47 : Addr) (y33 : Addr) (u33 : Addr) (c0 : Int32) (zc : Int32) (hE : Heap) (n0 : Nat) (vv : Option Value) (hh : Heap) (LL : List Loc) : Prop := (vv = none) ∧ (Fr n0 LL) ∧ (Keep hE hh [])
set_option maxRecDepth 65536 in
set_option maxHeartbeats 40000000 in
theorem rm_seg1L (la : Launch) (Z : State) (a0 : Array Value) (hw : ∀ d ∈ tables_1, d.before a0 Z = true) (ws : List Jvm.Cond) (k : Addr) (x : Addr) (m : Addr) (b : Addr) (t : Addr) (y47 : Addr) (u47 : Addr) (y33 : Addr) (u33 : Addr) (c0 : Int32) (zc : Int32) (hE : Heap) (n0 : Nat) (O : Old Z n0 hE) (P0_ : LStr Z hE x t ([c0] : List Int32)) (P1_ : LStr Z hE y47 u47 ([(47 : Int32)] : List Int32)) (P2_ : LStr Z hE y33 u33 ([(33 : Int32)] : List Int32)) (D0_ : Sta Z Z.heap "java/lang/String" "COMPACT_STRINGS" "Z" (.int zc)) (h47_c0 : ¬ ((c0.toInt8.toInt32) = (47 : Int32))) (h33_c0 : ¬ ((c0.toInt8.toInt32) = (33 : Int32))) (hzc : ¬ (zc = (0 : Int32))) :
    MetFree la mn16 (head1 (Jvm.Cond.code mn16 prog_9_method_9_code 4 none :: ws) ({ frames := 4, cells := 0, slots := 0, locals := 62 } : Room)) (fun aa UU => aa = #[(.ref k), (.ref x), (.ref m), (.ref b)] ∧ Z.Warmed39 UU.vm ∧ UU.heap = hE ∧ CHv Z ELs UU.vm hE ∧ Lit (Z.setVm UU.vm) "com/example/beanloft/beanloft/naming/GlobalName" 125 y47 ∧ Lit (Z.setVm UU.vm) "com/example/beanloft/beanloft/naming/GlobalName" 131 y33) (fun _ _ _ _ _ => True) (fun _ UU oo UV => ∃ vv LL, oo = .returned vv ∧ Q_seg1L Z k x m b t y47 u47 y33 u33 c0 zc hE n0 vv UV.heap LL ∧ (CHr Z ELs UU.vm UU.heap UV.vm UV.heap ∧ True) ∧ ReturnedEndW UU oo UV LL ({ frames := 4, cells := 0, slots := 0, locals := 62 } : Room).cells ({ frames := 4, cells := 0, slots := 0, locals := 62 } : Room).slots) := by
  refine MetFree.of_bodySF (plainFor_of_name pn_com_example_beanloft_beanloft_naming_GlobalName) hisR ?_
  intro pg ev sb mi gs below me cd s₁ Bd hml0 hPt hKt
  obtain ⟨rfl, hZ, hh, hH, hl_0, hl_1⟩ := hPt
  have hx := Bd.exec
  have hby := Bd.bytes
  have hml : cd.maxLocals = 4 := hml0
  have hown : sb.vm.findClass "com/example/beanloft/beanloft/naming/GlobalName" = some mi.cls := findClass_of_methodNamed Bd.named
  have hnm := (name_of_methodNamed Bd.named Bd.method).1
  have X0 : Stand pg la ev ({ frames := 4, cells := 0, slots := 0, locals := 62 } : Room) (sb.setVm sb.vm) mi #[(.ref k), (.ref x), (.ref m), (.ref b)] below me cd s₁ [] 0 0 := Stand.of_body Bd
  have eE : s₁.heap = hE := by rw [← hh, Bd.state]; rfl
  have N0 := Fr.nil n0
  have pre0 : ∀ tt, Steps pg.tables ev below (s₁.setTop (mkF mi 0 #[.val (.ref k), .val (.ref x), .val (.ref m), .val (.ref b)] [])) tt → Steps pg.tables ev below (s₁.setTop (entryFrame mi #[(.ref k), (.ref x), (.ref m), (.ref b)] 4)) tt := fun tt kk => castTop (ef_seg1L mi k x m b) kk
  have hS : sb.Since sb.vm 0 := (State.WarmedH.refl sb).since 0
  have hk : 0 ≤ hE.size := Nat.zero_le _
  have hEL := own_EW hw
  have C0 := CHr.refl hH
  obtain ⟨cq101, kq101, q101a, q101b, q101c⟩ := isOf hZ eE (P0_).1
  obtain ⟨v101, _, ⟨T101, L101, k101, n101⟩, -, X101, ⟨Lc101, hQ101, l101, y101, z101⟩, st101⟩ := X0.virtualBack hx (y := mn10) (z := mn10) hown (mvT hZ (wd55 hw)) (mvT hZ (wd56 hw)) (notFace_of_selects (args := #[]) (mvT hZ (wd58 hw))) (mvT hZ (wd58 hw)) (mvT hZ (wd57 hw)) (by decide) (backOf (W := 0) (rm_emp1 la Z a0 hw [] x t c0 hE n0 O P0_) hZ (wd59 hw) (wd6 hw) (by decide) (by decide)) q101a q101c (g := (mkF mi 5 #[.val (.ref k), .val (.ref x), .val (.ref m), .val (.ref b)] [(.ref x)])) rfl (by rw [hml]; rfl) (Steps.refl _) (argsL := []) (rest := []) (lenOf pd_5 rfl) rfl (by show 2 * 0 + _ ≤ _; exact Nat.le_of_eq rfl) (hb hby d_prog_9_method_9_code_5) (fun _ _ => ⟨rfl, eE, (by decide : 0 + 0 ≤ _), (by decide : 0 + 0 ≤ _)⟩)
  dsimp only [Pt.U, Pt.locs, Pt.cells, Pt.slots] at X101 l101 y101 z101 st101 hQ101
  subst l101 y101 z101
  obtain ⟨rfl, Nq101, ek101⟩ := hQ101
  have N101 := Fr.app N0 Nq101
  have pre103 : ∀ tt, Steps pg.tables ev below (T101.setTop (mkF mi 12 #[.val (.ref k), .val (.ref x), .val (.ref m), .val (.ref b)] [(.ref x)])) tt → Steps pg.tables ev below (s₁.setTop (entryFrame mi #[(.ref k), (.ref x), (.ref m), (.ref b)] 4)) tt := fun tt kk => pre0 _ (by
    show Steps pg.tables ev below (s₁.setTop (mkF mi 0 #[.val (.ref k), .val (.ref x), .val (.ref m), .val (.ref b)] [])) _
    refine XS.aloadN X0.here hx rfl (hb hby d_prog_9_method_9_code_0) rfl rfl ?_
    refine XS.ifnullNo X0.here hx rfl (hb hby d_prog_9_method_9_code_1) rfl ?_
    refine XS.aloadN X0.here hx rfl (hb hby d_prog_9_method_9_code_4) rfl rfl ?_
    show Steps pg.tables ev below (s₁.setTop (mkF mi 5 #[.val (.ref k), .val (.ref x), .val (.ref m), .val (.ref b)] [(.ref x)])) _
    refine st101.trans ?_
    show Steps pg.tables ev below (T101.setTop (mkF mi 8 #[.val (.ref k), .val (.ref x), .val (.ref m), .val (.ref b)] [(.int (0 : Int32))])) _
    refine XS.ifNo X101.here hx rfl (hb hby d_prog_9_method_9_code_8) rfl ((if0 _ _).trans (teq (rfl : (0 : Int32) = (0 : Int32))).2) ?_
    refine XS.aloadN X101.here hx rfl (hb hby d_prog_9_method_9_code_11) rfl rfl ?_
    exact kk)
  have st102 := ldcAgain (s := sb) X101 hx hZ hown (wd60 hw) hl_0 (g := (mkF mi 12 #[.val (.ref k), .val (.ref x), .val (.ref m), .val (.ref b)] [(.ref x)])) rfl (hb hby d_prog_9_method_9_code_12)
  obtain ⟨cq104, kq104, q104a, q104b, q104c⟩ := isOf hZ ek101 (P0_).1
  obtain ⟨v104, _, ⟨T104, L104, k104, n104⟩, -, X104, ⟨Lc104, hQ104, l104, y104, z104⟩, st104⟩ := X101.virtualBack hx (y := mn15) (z := mn15) hown (mvT hZ (wd61 hw)) (mvT hZ (wd62 hw)) (notFace_of_selects (args := #[]) (mvT hZ (wd64 hw))) (mvT hZ (wd64 hw)) (mvT hZ (wd63 hw)) (by decide) (backOf (W := 0) (rm_con1_47 la Z a0 hw [] x y47 t u47 c0 zc hE n0 O P0_ P1_ D0_ (h47_c0 : ¬ ((c0.toInt8.toInt32) = (47 : Int32))) (hzc : ¬ (zc = (0 : Int32)))) hZ (wd65 hw) (wd6 hw) (by decide) (by decide)) q104a q104c (g := (mkF mi 14 #[.val (.ref k), .val (.ref x), .val (.ref m), .val (.ref b)] [(.ref y47), (.ref x)])) rfl (by rw [hml]; rfl) (Steps.refl _) (argsL := [(.ref y47)]) (rest := []) (lenOf pd_9 rfl) rfl (by show 2 * 0 + _ ≤ _; exact Nat.le_of_eq rfl) (hb hby d_prog_9_method_9_code_14) (fun _ _ => ⟨rfl, ek101, (by decide : 0 + 0 ≤ _), (by decide : 0 + 0 ≤ _)⟩)
  dsimp only [Pt.U, Pt.locs, Pt.cells, Pt.slots] at X104 l104 y104 z104 st104 hQ104
  subst l104 y104 z104
  obtain ⟨rfl, Nq104, ek104⟩ := hQ104
  have N104 := Fr.app N101 Nq104
  have pre106 : ∀ tt, Steps pg.tables ev below (T104.setTop (mkF mi 21 #[.val (.ref k), .val (.ref x), .val (.ref m), .val (.ref b)] [(.ref x)])) tt → Steps pg.tables ev below (s₁.setTop (entryFrame mi #[(.ref k), (.ref x), (.ref m), (.ref b)] 4)) tt := fun tt kk => pre103 _ (by
    show Steps pg.tables ev below (T101.setTop (mkF mi 12 #[.val (.ref k), .val (.ref x), .val (.ref m), .val (.ref b)] [(.ref x)])) _
    refine st102 _ ?_
    show Steps pg.tables ev below (T101.setTop (mkF mi 14 #[.val (.ref k), .val (.ref x), .val (.ref m), .val (.ref b)] [(.ref y47), (.ref x)])) _
    refine st104.trans ?_
    show Steps pg.tables ev below (T104.setTop (mkF mi 17 #[.val (.ref k), .val (.ref x), .val (.ref m), .val (.ref b)] [(.int (0 : Int32))])) _
    refine XS.ifNo X104.here hx rfl (hb hby d_prog_9_method_9_code_17) rfl ((if0 _ _).trans (teq (rfl : (0 : Int32) = (0 : Int32))).2) ?_
    refine XS.aloadN X104.here hx rfl (hb hby d_prog_9_method_9_code_20) rfl rfl ?_
    exact kk)
  have st105 := ldcAgain (s := sb) X104 hx hZ hown (wd96 hw) hl_1 (g := (mkF mi 21 #[.val (.ref k), .val (.ref x), .val (.ref m), .val (.ref b)] [(.ref x)])) rfl (hb hby d_prog_9_method_9_code_21)
  obtain ⟨cq107, kq107, q107a, q107b, q107c⟩ := isOf hZ ek104 (P0_).1
  obtain ⟨v107, _, ⟨T107, L107, k107, n107⟩, -, X107, ⟨Lc107, hQ107, l107, y107, z107⟩, st107⟩ := X104.virtualBack hx (y := mn15) (z := mn15) hown (mvT hZ (wd61 hw)) (mvT hZ (wd62 hw)) (notFace_of_selects (args := #[]) (mvT hZ (wd64 hw))) (mvT hZ (wd64 hw)) (mvT hZ (wd63 hw)) (by decide) (backOf (W := 0) (rm_con1_33 la Z a0 hw [] x y33 t u33 c0 zc hE n0 O P0_ P2_ D0_ (h33_c0 : ¬ ((c0.toInt8.toInt32) = (33 : Int32))) (hzc : ¬ (zc = (0 : Int32)))) hZ (wd65 hw) (wd6 hw) (by decide) (by decide)) q107a q107c (g := (mkF mi 23 #[.val (.ref k), .val (.ref x), .val (.ref m), .val (.ref b)] [(.ref y33), (.ref x)])) rfl (by rw [hml]; rfl) (Steps.refl _) (argsL := [(.ref y33)]) (rest := []) (lenOf pd_9 rfl) rfl (by show 2 * 0 + _ ≤ _; exact Nat.le_of_eq rfl) (hb hby d_prog_9_method_9_code_23) (fun _ _ => ⟨rfl, ek104, (by decide : 0 + 0 ≤ _), (by decide : 0 + 0 ≤ _)⟩)
  dsimp only [Pt.U, Pt.locs, Pt.cells, Pt.slots] at X107 l107 y107 z107 st107 hQ107
  subst l107 y107 z107
  obtain ⟨rfl, Nq107, ek107⟩ := hQ107
  have N107 := Fr.app N104 Nq107
  obtain ⟨fs, hr, hrun, hended, hWe⟩ := X107.leaveW hS (show _ ≤ T107.heap.size by rw [ek107]; exact hk) (v := none) (fun _ => rfl)
  refine ⟨_, _, pre106 _ ?_, hrun, hended, _, _, rfl, ?_, ?_, hWe.1, hWe.2.1, hWe.2.2.1, hWe.2.2.2.mono (by decide) (by decide)⟩
  · show Steps pg.tables ev below (T104.setTop (mkF mi 21 #[.val (.ref k), .val (.ref x), .val (.ref m), .val (.ref b)] [(.ref x)])) _
    refine st105 _ ?_
    show Steps pg.tables ev below (T104.setTop (mkF mi 23 #[.val (.ref k), .val (.ref x), .val (.ref m), .val (.ref b)] [(.ref y33), (.ref x)])) _
    refine st107.trans ?_
    show Steps pg.tables ev below (T107.setTop (mkF mi 26 #[.val (.ref k), .val (.ref x), .val (.ref m), .val (.ref b)] [(.int (0 : Int32))])) _
    refine XS.ifYes X107.here hx rfl (pc0 := 26) (pc' := 62) rfl (hb hby d_prog_9_method_9_code_26) rfl ((if0 _ _).trans (teq (rfl : (0 : Int32) = (0 : Int32))).1) (by decide) (by decide) ?_
    show Steps pg.tables ev below (T107.setTop (mkF mi 62 #[.val (.ref k), .val (.ref x), .val (.ref m), .val (.ref b)] [])) _
    exact X107.returnOut hx Bd.returns (hb hby d_prog_9_method_9_code_62) hr
  · show Q_seg1L Z k x m b t y47 u47 y33 u33 c0 zc hE n0 _ T107.heap _
    rw [ek107]
    exact ⟨rfl, N107, (Keep.refl hE [])⟩
  · show CHr Z ELs sb.vm sb.heap T107.vm T107.heap ∧ True
    rw [hh, ek107]
    exact ⟨CHr.trans C0 (CHv.at X107 hZ hEL C0.1), trivial⟩
theorem ef_segN (mi : MethodId) (k : Addr) (m : Addr) (b : Addr) : entryFrame mi #[(.ref k), .null, (.ref m), (.ref b)] 4 = mkF mi 0 #[.val (.ref k), .val .null, .val (.ref m), .val (.ref b)] [] := by first | (simp [entryFrame, mkF, argsToLocals, Value.category]; done) | rfl
def Q_segN (Z : State) (k : Addr) (m : Addr) (b : Addr) (hE : Heap) (n0 : Nat) (vv : Option Value) (hh : Heap) (LL : List Loc) : Prop := (vv = none) ∧ (Fr n0 LL) ∧ (hh = hE)
set_option maxRecDepth 65536 in
set_option maxHeartbeats 40000000 in
theorem rm_segN (la : Launch) (Z : State) (a0 : Array Value) (hw : ∀ d ∈ tables_1, d.before a0 Z = true) (ws : List Jvm.Cond) (k : Addr) (m : Addr) (b : Addr) (hE : Heap) (n0 : Nat) (O : Old Z n0 hE) :
    MetFree la mn16 (head1 (Jvm.Cond.code mn16 prog_9_method_9_code 4 none :: ws) ({ frames := 0, cells := 0, slots := 0, locals := 0 } : Room)) (fun aa UU => aa = #[(.ref k), .null, (.ref m), (.ref b)] ∧ Z.Warmed39 UU.vm ∧ UU.heap = hE) (fun _ _ _ _ _ => True) (fun _ UU oo UV => ∃ vv LL, oo = .returned vv ∧ Q_segN Z k m b hE n0 vv UV.heap LL ∧ FrameEnd UU oo UV LL ({ frames := 0, cells := 0, slots := 0, locals := 0 } : Room).cells ({ frames := 0, cells := 0, slots := 0, locals := 0 } : Room).slots) := by
  refine MetFree.of_bodySF (plainFor_of_name pn_com_example_beanloft_beanloft_naming_GlobalName) hisR ?_
  intro pg ev sb mi gs below me cd s₁ Bd hml0 hPt hKt
  obtain ⟨rfl, hZ, hh⟩ := hPt
  have hx := Bd.exec
  have hby := Bd.bytes
  have hml : cd.maxLocals = 4 := hml0
  have hown : sb.vm.findClass "com/example/beanloft/beanloft/naming/GlobalName" = some mi.cls := findClass_of_methodNamed Bd.named
  have hnm := (name_of_methodNamed Bd.named Bd.method).1
  have X0 : Stand pg la ev ({ frames := 0, cells := 0, slots := 0, locals := 0 } : Room) sb mi #[(.ref k), .null, (.ref m), (.ref b)] below me cd s₁ [] 0 0 := Stand.of_body Bd
  have eE : s₁.heap = hE := by rw [← hh, Bd.state]; rfl
  have N0 := Fr.nil n0
  have pre0 : ∀ tt, Steps pg.tables ev below (s₁.setTop (mkF mi 0 #[.val (.ref k), .val .null, .val (.ref m), .val (.ref b)] [])) tt → Steps pg.tables ev below (s₁.setTop (entryFrame mi #[(.ref k), .null, (.ref m), (.ref b)] 4)) tt := fun tt kk => castTop (ef_segN mi k m b) kk
  obtain ⟨fs, hr, hrun, hended, hW, hsame⟩ := X0.leave (v := none) (fun _ => rfl)
  refine ⟨_, _, pre0 _ ?_, hrun, hended, _, _, rfl, ?_, ⟨_, rfl⟩, hW, hsame.mono (by decide) (by decide)⟩
  · show Steps pg.tables ev below (s₁.setTop (mkF mi 0 #[.val (.ref k), .val .null, .val (.ref m), .val (.ref b)] [])) _
    refine XS.aloadN X0.here hx rfl (hb hby d_prog_9_method_9_code_0) rfl rfl ?_
    refine XS.ifnullYes X0.here hx rfl (pc0 := 1) (pc' := 62) rfl (hb hby d_prog_9_method_9_code_1) rfl (by decide) (by decide) ?_
    show Steps pg.tables ev below (s₁.setTop (mkF mi 62 #[.val (.ref k), .val .null, .val (.ref m), .val (.ref b)] [])) _
    exact X0.returnOut hx Bd.returns (hb hby d_prog_9_method_9_code_62) hr
  · show Q_segN Z k m b hE n0 _ s₁.heap _
    rw [eE]
    exact ⟨rfl, N0, rfl⟩
theorem d_prog_9_method_1_code_0 : decode prog_9_method_1_code 0 = .ok (.aload_n 0, 1) := by decide +kernel
theorem d_prog_9_method_1_code_1 : decode prog_9_method_1_code 1 = .ok (.invokespecial 1, 3) := by decide +kernel
theorem d_prog_9_method_1_code_4 : decode prog_9_method_1_code 4 = .ok (.aload_n 2, 1) := by decide +kernel
theorem d_prog_9_method_1_code_5 : decode prog_9_method_1_code 5 = .ok (.ldc 7, 2) := by decide +kernel
theorem d_prog_9_method_1_code_7 : decode prog_9_method_1_code 7 = .ok (.invokestatic 9, 3) := by decide +kernel
theorem d_prog_9_method_1_code_10 : decode prog_9_method_1_code 10 = .ok (.pop, 1) := by decide +kernel
theorem d_prog_9_method_1_code_11 : decode prog_9_method_1_code 11 = .ok (.aload_n 3, 1) := by decide +kernel
theorem d_prog_9_method_1_code_12 : decode prog_9_method_1_code 12 = .ok (.ldc 15, 2) := by decide +kernel
theorem d_prog_9_method_1_code_14 : decode prog_9_method_1_code 14 = .ok (.invokestatic 9, 3) := by decide +kernel
theorem d_prog_9_method_1_code_17 : decode prog_9_method_1_code 17 = .ok (.pop, 1) := by decide +kernel
theorem d_prog_9_method_1_code_18 : decode prog_9_method_1_code 18 = .ok (.ldc 17, 2) := by decide +kernel
theorem d_prog_9_method_1_code_20 : decode prog_9_method_1_code 20 = .ok (.aload_n 1, 1) := by decide +kernel
theorem d_prog_9_method_1_code_21 : decode prog_9_method_1_code 21 = .ok (.aload_n 2, 1) := by decide +kernel
theorem d_prog_9_method_1_code_22 : decode prog_9_method_1_code 22 = .ok (.aload_n 3, 1) := by decide +kernel
theorem d_prog_9_method_1_code_23 : decode prog_9_method_1_code 23 = .ok (.invokestatic 19, 3) := by decide +kernel
theorem d_prog_9_method_1_code_26 : decode prog_9_method_1_code 26 = .ok (.ldc 25, 2) := by decide +kernel
theorem d_prog_9_method_1_code_28 : decode prog_9_method_1_code 28 = .ok (.aload_n 2, 1) := by decide +kernel
theorem d_prog_9_method_1_code_29 : decode prog_9_method_1_code 29 = .ok (.aload_n 2, 1) := by decide +kernel
theorem d_prog_9_method_1_code_30 : decode prog_9_method_1_code 30 = .ok (.aload_n 3, 1) := by decide +kernel
theorem d_prog_9_method_1_code_31 : decode prog_9_method_1_code 31 = .ok (.invokestatic 19, 3) := by decide +kernel
theorem d_prog_9_method_1_code_34 : decode prog_9_method_1_code 34 = .ok (.ldc 27, 2) := by decide +kernel
theorem d_prog_9_method_1_code_36 : decode prog_9_method_1_code 36 = .ok (.aload_n 3, 1) := by decide +kernel
theorem d_prog_9_method_1_code_37 : decode prog_9_method_1_code 37 = .ok (.aload_n 2, 1) := by decide +kernel
theorem d_prog_9_method_1_code_38 : decode prog_9_method_1_code 38 = .ok (.aload_n 3, 1) := by decide +kernel
theorem d_prog_9_method_1_code_39 : decode prog_9_method_1_code 39 = .ok (.invokestatic 19, 3) := by decide +kernel
theorem d_prog_9_method_1_code_42 : decode prog_9_method_1_code 42 = .ok (.ldc 29, 2) := by decide +kernel
theorem d_prog_9_method_1_code_44 : decode prog_9_method_1_code 44 = .ok (.aload 4, 2) := by decide +kernel
theorem d_prog_9_method_1_code_46 : decode prog_9_method_1_code 46 = .ok (.aload_n 2, 1) := by decide +kernel
theorem d_prog_9_method_1_code_47 : decode prog_9_method_1_code 47 = .ok (.aload_n 3, 1) := by decide +kernel
theorem d_prog_9_method_1_code_48 : decode prog_9_method_1_code 48 = .ok (.invokestatic 19, 3) := by decide +kernel
theorem d_prog_9_method_1_code_51 : decode prog_9_method_1_code 51 = .ok (.aload_n 0, 1) := by decide +kernel
theorem d_prog_9_method_1_code_52 : decode prog_9_method_1_code 52 = .ok (.aload_n 1, 1) := by decide +kernel
theorem d_prog_9_method_1_code_53 : decode prog_9_method_1_code 53 = .ok (.putfield 31, 3) := by decide +kernel
theorem d_prog_9_method_1_code_56 : decode prog_9_method_1_code 56 = .ok (.aload_n 0, 1) := by decide +kernel
theorem d_prog_9_method_1_code_57 : decode prog_9_method_1_code 57 = .ok (.aload_n 2, 1) := by decide +kernel
theorem d_prog_9_method_1_code_58 : decode prog_9_method_1_code 58 = .ok (.putfield 35, 3) := by decide +kernel
theorem d_prog_9_method_1_code_61 : decode prog_9_method_1_code 61 = .ok (.aload_n 0, 1) := by decide +kernel
theorem d_prog_9_method_1_code_62 : decode prog_9_method_1_code 62 = .ok (.aload_n 3, 1) := by decide +kernel
theorem d_prog_9_method_1_code_63 : decode prog_9_method_1_code 63 = .ok (.putfield 37, 3) := by decide +kernel
theorem d_prog_9_method_1_code_66 : decode prog_9_method_1_code 66 = .ok (.aload_n 0, 1) := by decide +kernel
theorem d_prog_9_method_1_code_67 : decode prog_9_method_1_code 67 = .ok (.aload 4, 2) := by decide +kernel
theorem d_prog_9_method_1_code_69 : decode prog_9_method_1_code 69 = .ok (.putfield 39, 3) := by decide +kernel
theorem d_prog_9_method_1_code_72 : decode prog_9_method_1_code 72 = .ok (.return_, 1) := by decide +kernel
theorem pd_10 : parseMethodDescriptor "()V" = some ⟨[], none⟩ := by decide +kernel
theorem pd_11 : parseMethodDescriptor "(Ljava/lang/Object;Ljava/lang/String;)Ljava/lang/Object;" = some ⟨[(.object "java/lang/Object"), (.object "java/lang/String")], some (.object "java/lang/Object")⟩ := by decide +kernel
theorem pd_12 : parseMethodDescriptor "(Ljava/lang/String;Ljava/lang/String;Ljava/lang/String;Ljava/lang/String;)V" = some ⟨[(.object "java/lang/String"), (.object "java/lang/String"), (.object "java/lang/String"), (.object "java/lang/String")], none⟩ := by decide +kernel
theorem ef_gin0110 (mi : MethodId) (g : Addr) (m : Addr) (b : Addr) : entryFrame mi #[(.ref g), .null, (.ref m), (.ref b), .null] 5 = mkF mi 0 #[.val (.ref g), .val .null, .val (.ref m), .val (.ref b), .val .null] [] := by first | (simp [entryFrame, mkF, argsToLocals, Value.category]; done) | rfl
def Q_gin0110 (Z : State) (g : Addr) (m : Addr) (tm : Addr) (cm0 : Int32) (b : Addr) (tb : Addr) (cb0 : Int32) (zc : Int32) (hE : Heap) (n0 : Nat) (vv : Option Value) (hh : Heap) (LL : List Loc) : Prop := (vv = none) ∧ (Fr n0 LL) ∧ (Keep hE hh [g]) ∧ (Exa Z hh g "com/example/beanloft/beanloft/naming/GlobalName") ∧ (Fld Z hh g "com/example/beanloft/beanloft/naming/GlobalName" "appName" "Ljava/lang/String;" .null) ∧ (Fld Z hh g "com/example/beanloft/beanloft/naming/GlobalName" "moduleName" "Ljava/lang/String;" (.ref m)) ∧ (Fld Z hh g "com/example/beanloft/beanloft/naming/GlobalName" "beanName" "Ljava/lang/String;" (.ref b)) ∧ (Fld Z hh g "com/example/beanloft/beanloft/naming/GlobalName" "viewName" "Ljava/lang/String;" .null)
set_option maxRecDepth 65536 in
set_option maxHeartbeats 40000000 in
theorem rm_gin0110 (la : Launch) (Z : State) (a0 : Array Value) (hw : ∀ d ∈ tables_1, d.before a0 Z = true) (ws : List Jvm.Cond) (g : Addr) (m : Addr) (tm : Addr) (cm0 : Int32) (b : Addr) (tb : Addr) (cb0 : Int32) (zc : Int32) (hE : Heap) (n0 : Nat) (O : Old Z n0 hE) (P0_ : Exa Z hE g "com/example/beanloft/beanloft/naming/GlobalName") (P1_ : Fld Z hE g "com/example/beanloft/beanloft/naming/GlobalName" "appName" "Ljava/lang/String;" .null) (P2_ : Fld Z hE g "com/example/beanloft/beanloft/naming/GlobalName" "moduleName" "Ljava/lang/String;" .null) (P3_ : Fld Z hE g "com/example/beanloft/beanloft/naming/GlobalName" "beanName" "Ljava/lang/String;" .null) (P4_ : Fld Z hE g "com/example/beanloft/beanloft/naming/GlobalName" "viewName" "Ljava/lang/String;" .null) (P5_ : LStr Z hE m tm ([cm0] : List Int32)) (P6_ : LStr Z hE b tb ([cb0] : List Int32)) (D0_ : Sta Z Z.heap "java/lang/String" "COMPACT_STRINGS" "Z" (.int zc)) (g_g : n0 ≤ g) (ne_m_g : m ≠ g) (ne_tm_g : tm ≠ g) (ne_b_g : b ≠ g) (ne_tb_g : tb ≠ g) (h47_cm0 : ¬ ((cm0.toInt8.toInt32) = (47 : Int32))) (h33_cm0 : ¬ ((cm0.toInt8.toInt32) = (33 : Int32))) (h47_cb0 : ¬ ((cb0.toInt8.toInt32) = (47 : Int32))) (h33_cb0 : ¬ ((cb0.toInt8.toInt32) = (33 : Int32))) (hzc : ¬ (zc = (0 : Int32))) :
    MetFree la mn17 (head1 (Jvm.Cond.code mn17 prog_9_method_1_code 5 none :: ws) ({ frames := 5, cells := 16, slots := 292, locals := 77 } : Room)) (fun aa UU => aa = #[(.ref g), .null, (.ref m), (.ref b), .null] ∧ Z.Warmed39 UU.vm ∧ UU.heap = hE ∧ CHv Z ELs UU.vm hE) (fun _ _ _ _ _ => True) (fun _ UU oo UV => ∃ vv LL, oo = .returned vv ∧ Q_gin0110 Z g m tm cm0 b tb cb0 zc hE n0 vv UV.heap LL ∧ CHr Z ELs UU.vm UU.heap UV.vm UV.heap ∧ ReturnedEndW UU oo UV LL ({ frames := 5, cells := 16, slots := 292, locals := 77 } : Room).cells ({ frames := 5, cells := 16, slots := 292, locals := 77 } : Room).slots) := by
  refine MetFree.of_bodySF (plainFor_of_name pn_com_example_beanloft_beanloft_naming_GlobalName) hisR ?_
  intro pg ev sb mi gs below me cd s₁ Bd hml0 hPt hKt
  obtain ⟨rfl, hZ, hh, hH⟩ := hPt
  have hx := Bd.exec
  have hby := Bd.bytes
  have hml : cd.maxLocals = 5 := hml0
  have hown : sb.vm.findClass "com/example/beanloft/beanloft/naming/GlobalName" = some mi.cls := findClass_of_methodNamed Bd.named
  have hnm := (name_of_methodNamed Bd.named Bd.method).1
  have X0 : Stand pg la ev ({ frames := 5, cells := 16, slots := 292, locals := 77 } : Room) (sb.setVm sb.vm) mi #[(.ref g), .null, (.ref m), (.ref b), .null] below me cd s₁ [] 0 0 := Stand.of_body Bd
  have eE : s₁.heap = hE := by rw [← hh, Bd.state]; rfl
  have N0 := Fr.nil n0
  have pre0 : ∀ tt, Steps pg.tables ev below (s₁.setTop (mkF mi 0 #[.val (.ref g), .val .null, .val (.ref m), .val (.ref b), .val .null] [])) tt → Steps pg.tables ev below (s₁.setTop (entryFrame mi #[(.ref g), .null, (.ref m), (.ref b), .null] 5)) tt := fun tt kk => castTop (ef_gin0110 mi g m b) kk
  have hS : sb.Since sb.vm 0 := (State.WarmedH.refl sb).since 0
  have hk : 0 ≤ hE.size := Nat.zero_le _
  have hEL := own_EW hw
  have C0 := CHr.refl hH
  obtain ⟨v101, _, ⟨T101, L101, k101, n101⟩, -, X101, ⟨Lc101, hQ101, l101, y101, z101⟩, st101⟩ := X0.specialBack hx (y := mn5) rfl hown (mvT hZ (wd36 hw)) (mvT hZ (wd37 hw)) (mvT hZ (wd40 hw)) (by decide) (backOf (W := 0) (rm_rec la Z a0 hw [] g hE n0 O) hZ (wd40 hw) (wd39 hw) (by decide) (by decide)) (g := (mkF mi 1 #[.val (.ref g), .val .null, .val (.ref m), .val (.ref b), .val .null] [(.ref g)])) rfl (by rw [hml]; rfl) (Steps.refl _) (a := g) (argsL := []) (rest := []) (lenOf pd_10 rfl) rfl (by show 2 * 0 + _ ≤ _; exact Nat.le_of_eq rfl) (hb hby d_prog_9_method_1_code_1) (fun _ _ => ⟨rfl, eE, (by decide : 0 + 0 ≤ _), (by decide : 0 + 0 ≤ _)⟩)
  dsimp only [Pt.U, Pt.locs, Pt.cells, Pt.slots] at X101 l101 y101 z101 st101 hQ101
  subst l101 y101 z101
  obtain ⟨rfl, Nq101, ek101⟩ := hQ101
  have N101 := Fr.app N0 Nq101
  have pre103 : ∀ tt, Steps pg.tables ev below (T101.setTop (mkF mi 5 #[.val (.ref g), .val .null, .val (.ref m), .val (.ref b), .val .null] [(.ref m)])) tt → Steps pg.tables ev below (s₁.setTop (entryFrame mi #[(.ref g), .null, (.ref m), (.ref b), .null] 5)) tt := fun tt kk => pre0 _ (by
    show Steps pg.tables ev below (s₁.setTop (mkF mi 0 #[.val (.ref g), .val .null, .val (.ref m), .val (.ref b), .val .null] [])) _
    refine XS.aloadN X0.here hx rfl (hb hby d_prog_9_method_1_code_0) rfl rfl ?_
    show Steps pg.tables ev below (s₁.setTop (mkF mi 1 #[.val (.ref g), .val .null, .val (.ref m), .val (.ref b), .val .null] [(.ref g)])) _
    refine st101.trans ?_
    show Steps pg.tables ev below (T101.setTop (mkF mi 4 #[.val (.ref g), .val .null, .val (.ref m), .val (.ref b), .val .null] [])) _
    refine XS.aloadN X101.here hx rfl (hb hby d_prog_9_method_1_code_4) rfl rfl ?_
    exact kk)
  obtain ⟨a102, T102, h102, k102, X102, e102, E102, hs104, hk105, hZ, hown, c102, lt106, st102⟩ := ldcOH (s := sb.setVm sb.vm) X101 hx hZ hown (wd42 hw) (own_wS hw) ek101 ((State.WarmedH.refl (sb.setVm sb.vm)).since 0) (Nat.zero_le _) hEL C0.1 (g := (mkF mi 5 #[.val (.ref g), .val .null, .val (.ref m), .val (.ref b), .val .null] [(.ref m)])) rfl (hb hby d_prog_9_method_1_code_5) (n := 40) (by decide) (by decide) (by decide) (by decide)
  have X102 := own_restand X102
  have hS := hS.trans (⟨hs104.1, hs104.2.mono hk105⟩ : (sb.setVm sb.vm).Since T102.vm h102.size) (Nat.le_trans hk E102.1)
  have hk : h102.size ≤ h102.size := Nat.le_refl _
  have C107 := CHr.trans C0 c102
  have O108 : Old Z n0 h102 := (O.ext E102)
  obtain ⟨v109, _, ⟨T109, L109, k109, n109⟩, -, X109, ⟨Lc109, hQ109, l109, y109, z109⟩, st109⟩ := Jvm.LawKit.callS X102 hx (y := mn6) hown (mvT hZ (wd45 hw)) (mvT hZ (wd46 hw)) (mvT hZ (wd47 hw)) (mvT hZ (wd48 hw)) (by decide) (backOf (W := 0) (rm_rnn2 la Z a0 hw [] m a102 h102 n0 O108) hZ (wd48 hw) (wd47 hw) (by decide) (by decide)) (g := (mkF mi 7 #[.val (.ref g), .val .null, .val (.ref m), .val (.ref b), .val .null] [(.ref a102), (.ref m)])) rfl (by rw [hml]; rfl) (argsL := [(.ref m), (.ref a102)]) (rest := []) (lenOf pd_11 rfl) rfl (by show 2 * 0 + _ ≤ _; exact Nat.le_of_eq rfl) (hb hby d_prog_9_method_1_code_7) (fun _ _ => ⟨rfl, e102, (by decide : 2 + 0 ≤ _), (by decide : 44 + 0 ≤ _)⟩)
  dsimp only [Pt.U, Pt.locs, Pt.cells, Pt.slots] at X109 l109 y109 z109 st109 hQ109
  subst l109 y109 z109
  obtain ⟨rfl, Nq109, ek109⟩ := hQ109
  have N109 := Fr.app N101 Nq109
  have pre111 : ∀ tt, Steps pg.tables ev below (T109.setTop (mkF mi 12 #[.val (.ref g), .val .null, .val (.ref m), .val (.ref b), .val .null] [(.ref b)])) tt → Steps pg.tables ev below (s₁.setTop (entryFrame mi #[(.ref g), .null, (.ref m), (.ref b), .null] 5)) tt := fun tt kk => pre103 _ (by
    show Steps pg.tables ev below (T101.setTop (mkF mi 5 #[.val (.ref g), .val .null, .val (.ref m), .val (.ref b), .val .null] [(.ref m)])) _
    refine st102 _ ?_
    show Steps pg.tables ev below (T102.setTop (mkF mi 7 #[.val (.ref g), .val .null, .val (.ref m), .val (.ref b), .val .null] [(.ref a102), (.ref m)])) _
    refine st109 _ ?_
    show Steps pg.tables ev below (T109.setTop (mkF mi 10 #[.val (.ref g), .val .null, .val (.ref m), .val (.ref b), .val .null] [(.ref m)])) _
    refine XS.pop X109.here hx rfl (hb hby d_prog_9_method_1_code_10) rfl rfl ?_
    refine XS.aloadN X109.here hx rfl (hb hby d_prog_9_method_1_code_11) rfl rfl ?_
    exact kk)
  obtain ⟨a110, T110, h110, k110, X110, e110, E110, hs112, hk113, hZ, hown, c110, lt114, st110⟩ := ldcOH (s := sb.setVm T102.vm) X109 hx hZ hown (wd49 hw) (own_wS hw) ek109 ((State.WarmedH.refl (sb.setVm T102.vm)).since 0) (Nat.zero_le _) hEL C107.1 (g := (mkF mi 12 #[.val (.ref g), .val .null, .val (.ref m), .val (.ref b), .val .null] [(.ref b)])) rfl (hb hby d_prog_9_method_1_code_12) (n := 32) (by decide) (by decide) (by decide) (by decide)
  have X110 := own_restand X110
  have hS := hS.trans (⟨hs112.1, hs112.2.mono hk113⟩ : (sb.setVm T102.vm).Since T110.vm h110.size) (Nat.le_trans hk E110.1)
  have hk : h110.size ≤ h110.size := Nat.le_refl _
  have lt115 := Lit.stays (s := sb) lt106 hs112.1
  have C116 := CHr.trans C107 c110
  have O117 : Old Z n0 h110 := (O108.ext E110)
  obtain ⟨v118, _, ⟨T118, L118, k118, n118⟩, -, X118, ⟨Lc118, hQ118, l118, y118, z118⟩, st118⟩ := Jvm.LawKit.callS X110 hx (y := mn6) hown (mvT hZ (wd45 hw)) (mvT hZ (wd46 hw)) (mvT hZ (wd47 hw)) (mvT hZ (wd48 hw)) (by decide) (backOf (W := 0) (rm_rnn2 la Z a0 hw [] b a110 h110 n0 O117) hZ (wd48 hw) (wd47 hw) (by decide) (by decide)) (g := (mkF mi 14 #[.val (.ref g), .val .null, .val (.ref m), .val (.ref b), .val .null] [(.ref a110), (.ref b)])) rfl (by rw [hml]; rfl) (argsL := [(.ref b), (.ref a110)]) (rest := []) (lenOf pd_11 rfl) rfl (by show 2 * 0 + _ ≤ _; exact Nat.le_of_eq rfl) (hb hby d_prog_9_method_1_code_14) (fun _ _ => ⟨rfl, e110, (by decide : 4 + 0 ≤ _), (by decide : 80 + 0 ≤ _)⟩)
  dsimp only [Pt.U, Pt.locs, Pt.cells, Pt.slots] at X118 l118 y118 z118 st118 hQ118
  subst l118 y118 z118
  obtain ⟨rfl, Nq118, ek118⟩ := hQ118
  have N118 := Fr.app N109 Nq118
  have pre120 : ∀ tt, Steps pg.tables ev below (T118.setTop (mkF mi 18 #[.val (.ref g), .val .null, .val (.ref m), .val (.ref b), .val .null] [])) tt → Steps pg.tables ev below (s₁.setTop (entryFrame mi #[(.ref g), .null, (.ref m), (.ref b), .null] 5)) tt := fun tt kk => pre111 _ (by
    show Steps pg.tables ev below (T109.setTop (mkF mi 12 #[.val (.ref g), .val .null, .val (.ref m), .val (.ref b), .val .null] [(.ref b)])) _
    refine st110 _ ?_
    show Steps pg.tables ev below (T110.setTop (mkF mi 14 #[.val (.ref g), .val .null, .val (.ref m), .val (.ref b), .val .null] [(.ref a110), (.ref b)])) _
    refine st118 _ ?_
    show Steps pg.tables ev below (T118.setTop (mkF mi 17 #[.val (.ref g), .val .null, .val (.ref m), .val (.ref b), .val .null] [(.ref b)])) _
    refine XS.pop X118.here hx rfl (hb hby d_prog_9_method_1_code_17) rfl rfl ?_
    exact kk)
  obtain ⟨a119, T119, h119, k119, X119, e119, E119, hs121, hk122, hZ, hown, c119, lt123, st119⟩ := ldcOH (s := sb.setVm T110.vm) X118 hx hZ hown (wd50 hw) (own_wS hw) ek118 ((State.WarmedH.refl (sb.setVm T110.vm)).since 0) (Nat.zero_le _) hEL C116.1 (g := (mkF mi 18 #[.val (.ref g), .val .null, .val (.ref m), .val (.ref b), .val .null] [])) rfl (hb hby d_prog_9_method_1_code_18) (n := 64) (by decide) (by decide) (by decide) (by decide)
  have X119 := own_restand X119
  have hS := hS.trans (⟨hs121.1, hs121.2.mono hk122⟩ : (sb.setVm T110.vm).Since T119.vm h119.size) (Nat.le_trans hk E119.1)
  have hk : h119.size ≤ h119.size := Nat.le_refl _
  have lt124 := Lit.stays (s := sb) lt115 hs121.1
  have lt125 := Lit.stays (s := sb) lt114 hs121.1
  have C126 := CHr.trans C116 c119
  have O127 : Old Z n0 h119 := (O117.ext E119)
  obtain ⟨v128, _, ⟨T128, L128, k128, n128⟩, -, X128, ⟨Lc128, hQ128, l128, y128, z128⟩, st128⟩ := Jvm.LawKit.callS X119 hx (y := mn16) hown (mvT hZ (wd51 hw)) (mvT hZ (wd52 hw)) (mvT hZ (wd32 hw)) (mvT hZ (wd53 hw)) (by decide) (backOf (W := 0) (rm_segN la Z a0 hw [] a119 m b h119 n0 O127) hZ (wd53 hw) (wd32 hw) (by decide) (by decide)) (g := (mkF mi 23 #[.val (.ref g), .val .null, .val (.ref m), .val (.ref b), .val .null] [(.ref b), (.ref m), .null, (.ref a119)])) rfl (by rw [hml]; rfl) (argsL := [(.ref a119), .null, (.ref m), (.ref b)]) (rest := []) (lenOf pd_12 rfl) rfl (by show 2 * 0 + _ ≤ _; exact Nat.le_of_eq rfl) (hb hby d_prog_9_method_1_code_23) (fun _ _ => ⟨rfl, e119, (by decide : 6 + 0 ≤ _), (by decide : 148 + 0 ≤ _)⟩)
  dsimp only [Pt.U, Pt.locs, Pt.cells, Pt.slots] at X128 l128 y128 z128 st128 hQ128
  subst l128 y128 z128
  obtain ⟨rfl, Nq128, ek128⟩ := hQ128
  have N128 := Fr.app N118 Nq128
  have pre130 : ∀ tt, Steps pg.tables ev below (T128.setTop (mkF mi 26 #[.val (.ref g), .val .null, .val (.ref m), .val (.ref b), .val .null] [])) tt → Steps pg.tables ev below (s₁.setTop (entryFrame mi #[(.ref g), .null, (.ref m), (.ref b), .null] 5)) tt := fun tt kk => pre120 _ (by
    show Steps pg.tables ev below (T118.setTop (mkF mi 18 #[.val (.ref g), .val .null, .val (.ref m), .val (.ref b), .val .null] [])) _
    refine st119 _ ?_
    show Steps pg.tables ev below (T119.setTop (mkF mi 20 #[.val (.ref g), .val .null, .val (.ref m), .val (.ref b), .val .null] [(.ref a119)])) _
    refine XS.aloadN X119.here hx rfl (hb hby d_prog_9_method_1_code_20) rfl rfl ?_
    refine XS.aloadN X119.here hx rfl (hb hby d_prog_9_method_1_code_21) rfl rfl ?_
    refine XS.aloadN X119.here hx rfl (hb hby d_prog_9_method_1_code_22) rfl rfl ?_
    show Steps pg.tables ev below (T119.setTop (mkF mi 23 #[.val (.ref g), .val .null, .val (.ref m), .val (.ref b), .val .null] [(.ref b), (.ref m), .null, (.ref a119)])) _
    refine st128 _ ?_
    exact kk)
  obtain ⟨a129, T129, h129, k129, X129, e129, E129, hs131, hk132, hZ, hown, c129, lt133, st129⟩ := ldcOH (s := sb.setVm T119.vm) X128 hx hZ hown (wd54 hw) (own_wS hw) ek128 ((State.WarmedH.refl (sb.setVm T119.vm)).since 0) (Nat.zero_le _) hEL C126.1 (g := (mkF mi 26 #[.val (.ref g), .val .null, .val (.ref m), .val (.ref b), .val .null] [])) rfl (hb hby d_prog_9_method_1_code_26) (n := 44) (by decide) (by decide) (by decide) (by decide)
  have X129 := own_restand X129
  have hS := hS.trans (⟨hs131.1, hs131.2.mono hk132⟩ : (sb.setVm T119.vm).Since T129.vm h129.size) (Nat.le_trans hk E129.1)
  have hk : h129.size ≤ h129.size := Nat.le_refl _
  have lt134 := Lit.stays (s := sb) lt124 hs131.1
  have lt135 := Lit.stays (s := sb) lt125 hs131.1
  have lt136 := Lit.stays (s := sb) lt123 hs131.1
  have C137 := CHr.trans C126 c129
  have O138 : Old Z n0 h129 := (O127.ext E129)
  have f139 : LStr Z h129 m tm ([cm0] : List Int32) := ((((P5_.ext E102).ext E110).ext E119).ext E129)
  have pre141 : ∀ tt, Steps pg.tables ev below (T129.setTop (mkF mi 31 #[.val (.ref g), .val .null, .val (.ref m), .val (.ref b), .val .null] [(.ref b), (.ref m), (.ref m), (.ref a129)])) tt → Steps pg.tables ev below (s₁.setTop (entryFrame mi #[(.ref g), .null, (.ref m), (.ref b), .null] 5)) tt := fun tt kk => pre130 _ (by
    show Steps pg.tables ev below (T128.setTop (mkF mi 26 #[.val (.ref g), .val .null, .val (.ref m), .val (.ref b), .val .null] [])) _
    refine st129 _ ?_
    show Steps pg.tables ev below (T129.setTop (mkF mi 28 #[.val (.ref g), .val .null, .val (.ref m), .val (.ref b), .val .null] [(.ref a129)])) _
    refine XS.aloadN X129.here hx rfl (hb hby d_prog_9_method_1_code_28) rfl rfl ?_
    refine XS.aloadN X129.here hx rfl (hb hby d_prog_9_method_1_code_29) rfl rfl ?_
    refine XS.aloadN X129.here hx rfl (hb hby d_prog_9_method_1_code_30) rfl rfl ?_
    exact kk)
  obtain ⟨v140, _, ⟨T140, L140, k140, n140⟩, -, X140, s140, gr140, ⟨Lc140, hQ140, l140, y140, z140, c140, ly0_140, lu0_140, ly1_140, lu1_140, ll0_140, ls0_140, ll1_140, ls1_140⟩, st140⟩ := callSS X129 hx (y := mn16) hown (mvT hZ (wd51 hw)) (mvT hZ (wd52 hw)) (mvT hZ (wd32 hw)) (mvT hZ (wd53 hw)) (by decide) (own_backSL (W := 0) (LP := fun vm => True) (LQ := fun vm h => ∃ ly0 lu0 ly1 lu1 : Addr, Lit (Z.setVm vm) "com/example/beanloft/beanloft/naming/GlobalName" 125 ly0 ∧ LStr Z h ly0 lu0 ([(47 : Int32)] : List Int32) ∧ Lit (Z.setVm vm) "com/example/beanloft/beanloft/naming/GlobalName" 131 ly1 ∧ LStr Z h ly1 lu1 ([(33 : Int32)] : List Int32)) (fun hW => trivial) (rm_seg1 la Z a0 hw [] a129 m m b tm cm0 zc h129 n0 O138 f139 D0_ (h47_cm0 : ¬ ((cm0.toInt8.toInt32) = (47 : Int32))) (h33_cm0 : ¬ ((cm0.toInt8.toInt32) = (33 : Int32))) (hzc : ¬ (zc = (0 : Int32)))) hZ (wd53 hw) (wd32 hw) (by decide) (by decide) hEL C137.1) (g := (mkF mi 31 #[.val (.ref g), .val .null, .val (.ref m), .val (.ref b), .val .null] [(.ref b), (.ref m), (.ref m), (.ref a129)])) rfl (by rw [hml]; rfl) (argsL := [(.ref a129), (.ref m), (.ref m), (.ref b)]) (rest := []) (lenOf pd_12 rfl) rfl (by show 2 * 0 + _ ≤ _; exact Nat.le_of_eq rfl) (hb hby d_prog_9_method_1_code_31) (fun _ _ => ⟨rfl, e129, (by decide : 8 + 4 ≤ _), (by decide : 196 + 16 ≤ _)⟩)
  dsimp only [Pt.U, Pt.locs, Pt.cells, Pt.slots] at X140 s140 gr140 l140 y140 z140 c140 st140 hQ140
  subst l140 y140 z140
  dsimp only [Pt.U] at ll0_140 ls0_140 ll1_140 ls1_140
  have lt142 := Lit.stays (s := sb) lt134 s140.1
  have lt143 := Lit.stays (s := sb) lt135 s140.1
  have lt144 := Lit.stays (s := sb) lt136 s140.1
  have lt145 := Lit.stays (s := sb) lt133 s140.1
  obtain ⟨X140, hS, hZ, hown⟩ := rebS hS (show _ ≤ T129.heap.size by rw [e129]; exact hk) X140 s140 gr140 hZ hown
  have hk : T140.heap.size ≤ T140.heap.size := Nat.le_refl _
  obtain ⟨rfl, Nq140, Kq140⟩ := hQ140
  have N140 := Fr.app N128 Nq140
  have C146 := CHr.trans C137 c140
  have pre148 : ∀ tt, Steps pg.tables ev below (T140.setTop (mkF mi 34 #[.val (.ref g), .val .null, .val (.ref m), .val (.ref b), .val .null] [])) tt → Steps pg.tables ev below (s₁.setTop (entryFrame mi #[(.ref g), .null, (.ref m), (.ref b), .null] 5)) tt := fun tt kk => pre141 _ (by
    show Steps pg.tables ev below (T129.setTop (mkF mi 31 #[.val (.ref g), .val .null, .val (.ref m), .val (.ref b), .val .null] [(.ref b), (.ref m), (.ref m), (.ref a129)])) _
    refine st140.trans ?_
    exact kk)
  obtain ⟨a147, T147, h147, k147, X147, e147, E147, hs149, hk150, hZ, hown, c147, lt151, st147⟩ := ldcOH (s := sb.setVm T140.vm) X140 hx hZ hown (wd97 hw) (own_wS hw) rfl ((State.WarmedH.refl (sb.setVm T140.vm)).since 0) (Nat.zero_le _) hEL C146.1 (g := (mkF mi 34 #[.val (.ref g), .val .null, .val (.ref m), .val (.ref b), .val .null] [])) rfl (hb hby d_prog_9_method_1_code_34) (n := 36) (by decide) (by decide) (by decide) (by decide)
  have X147 := own_restand X147
  have hS := hS.trans (⟨hs149.1, hs149.2.mono hk150⟩ : (sb.setVm T140.vm).Since T147.vm h147.size) (Nat.le_trans hk E147.1)
  have hk : h147.size ≤ h147.size := Nat.le_refl _
  have lt152 := Lit.stays (s := sb) lt142 hs149.1
  have lt153 := Lit.stays (s := sb) lt143 hs149.1
  have lt154 := Lit.stays (s := sb) lt144 hs149.1
  have lt155 := Lit.stays (s := sb) lt145 hs149.1
  have lt156 := Lit.stays (s := sb) ll0_140 hs149.1
  have lt157 := Lit.stays (s := sb) ll1_140 hs149.1
  have C158 := CHr.trans C146 c147
  have O159 : Old Z n0 h147 := ((O138.keep Kq140 all0).ext E147)
  have f160 : LStr Z h147 b tb ([cb0] : List Int32) := ((((((P6_.ext E102).ext E110).ext E119).ext E129).keep Kq140 nin0 nin0).ext E147)
  have f161 : LStr Z h147 ly0_140 lu0_140 ([(47 : Int32)] : List Int32) := (ls0_140.ext E147)
  have f162 : LStr Z h147 ly1_140 lu1_140 ([(33 : Int32)] : List Int32) := (ls1_140.ext E147)
  have pre164 : ∀ tt, Steps pg.tables ev below (T147.setTop (mkF mi 39 #[.val (.ref g), .val .null, .val (.ref m), .val (.ref b), .val .null] [(.ref b), (.ref m), (.ref b), (.ref a147)])) tt → Steps pg.tables ev below (s₁.setTop (entryFrame mi #[(.ref g), .null, (.ref m), (.ref b), .null] 5)) tt := fun tt kk => pre148 _ (by
    show Steps pg.tables ev below (T140.setTop (mkF mi 34 #[.val (.ref g), .val .null, .val (.ref m), .val (.ref b), .val .null] [])) _
    refine st147 _ ?_
    show Steps pg.tables ev below (T147.setTop (mkF mi 36 #[.val (.ref g), .val .null, .val (.ref m), .val (.ref b), .val .null] [(.ref a147)])) _
    refine XS.aloadN X147.here hx rfl (hb hby d_prog_9_method_1_code_36) rfl rfl ?_
    refine XS.aloadN X147.here hx rfl (hb hby d_prog_9_method_1_code_37) rfl rfl ?_
    refine XS.aloadN X147.here hx rfl (hb hby d_prog_9_method_1_code_38) rfl rfl ?_
    exact kk)
  obtain ⟨v163, _, ⟨T163, L163, k163, n163⟩, -, X163, s163, gr163, ⟨Lc163, hQ163, l163, y163, z163, c163, -⟩, st163⟩ := callSS X147 hx (y := mn16) hown (mvT hZ (wd51 hw)) (mvT hZ (wd52 hw)) (mvT hZ (wd32 hw)) (mvT hZ (wd53 hw)) (by decide) (own_backSL (W := 0) (LP := fun vm => Lit (Z.setVm vm) "com/example/beanloft/beanloft/naming/GlobalName" 125 ly0_140 ∧ Lit (Z.setVm vm) "com/example/beanloft/beanloft/naming/GlobalName" 131 ly1_140) (LQ := fun vm h => True) (fun hW => ⟨Lit.stays (s := sb) lt156 hW, Lit.stays (s := sb) lt157 hW⟩) (rm_seg1L la Z a0 hw [] a147 b m b tb ly0_140 lu0_140 ly1_140 lu1_140 cb0 zc h147 n0 O159 f160 f161 f162 D0_ (h47_cb0 : ¬ ((cb0.toInt8.toInt32) = (47 : Int32))) (h33_cb0 : ¬ ((cb0.toInt8.toInt32) = (33 : Int32))) (hzc : ¬ (zc = (0 : Int32)))) hZ (wd53 hw) (wd32 hw) (by decide) (by decide) hEL C158.1) (g := (mkF mi 39 #[.val (.ref g), .val .null, .val (.ref m), .val (.ref b), .val .null] [(.ref b), (.ref m), (.ref b), (.ref a147)])) rfl (by rw [hml]; rfl) (argsL := [(.ref a147), (.ref b), (.ref m), (.ref b)]) (rest := []) (lenOf pd_12 rfl) rfl (by show 2 * 0 + _ ≤ _; exact Nat.le_of_eq rfl) (hb hby d_prog_9_method_1_code_39) (fun _ _ => ⟨rfl, e147, (by decide : 14 + 0 ≤ _), (by decide : 252 + 0 ≤ _)⟩)
  dsimp only [Pt.U, Pt.locs, Pt.cells, Pt.slots] at X163 s163 gr163 l163 y163 z163 c163 st163 hQ163
  subst l163 y163 z163
  have lt165 := Lit.stays (s := sb) lt152 s163.1
  have lt166 := Lit.stays (s := sb) lt153 s163.1
  have lt167 := Lit.stays (s := sb) lt154 s163.1
  have lt168 := Lit.stays (s := sb) lt155 s163.1
  have lt169 := Lit.stays (s := sb) lt156 s163.1
  have lt170 := Lit.stays (s := sb) lt157 s163.1
  have lt171 := Lit.stays (s := sb) lt151 s163.1
  obtain ⟨X163, hS, hZ, hown⟩ := rebS hS (show _ ≤ T147.heap.size by rw [e147]; exact hk) X163 s163 gr163 hZ hown
  have hk : T163.heap.size ≤ T163.heap.size := Nat.le_refl _
  obtain ⟨rfl, Nq163, Kq163⟩ := hQ163
  have N163 := Fr.app N140 Nq163
  have C172 := CHr.trans C158 c163
  have pre174 : ∀ tt, Steps pg.tables ev below (T163.setTop (mkF mi 42 #[.val (.ref g), .val .null, .val (.ref m), .val (.ref b), .val .null] [])) tt → Steps pg.tables ev below (s₁.setTop (entryFrame mi #[(.ref g), .null, (.ref m), (.ref b), .null] 5)) tt := fun tt kk => pre164 _ (by
    show Steps pg.tables ev below (T147.setTop (mkF mi 39 #[.val (.ref g), .val .null, .val (.ref m), .val (.ref b), .val .null] [(.ref b), (.ref m), (.ref b), (.ref a147)])) _
    refine st163.trans ?_
    exact kk)
  obtain ⟨a173, T173, h173, k173, X173, e173, E173, hs175, hk176, hZ, hown, c173, lt177, st173⟩ := ldcOH (s := sb.setVm T163.vm) X163 hx hZ hown (wd98 hw) (own_wS hw) rfl ((State.WarmedH.refl (sb.setVm T163.vm)).since 0) (Nat.zero_le _) hEL C172.1 (g := (mkF mi 42 #[.val (.ref g), .val .null, .val (.ref m), .val (.ref b), .val .null] [])) rfl (hb hby d_prog_9_method_1_code_42) (n := 36) (by decide) (by decide) (by decide) (by decide)
  have X173 := own_restand X173
  have hS := hS.trans (⟨hs175.1, hs175.2.mono hk176⟩ : (sb.setVm T163.vm).Since T173.vm h173.size) (Nat.le_trans hk E173.1)
  have hk : h173.size ≤ h173.size := Nat.le_refl _
  have lt178 := Lit.stays (s := sb) lt165 hs175.1
  have lt179 := Lit.stays (s := sb) lt166 hs175.1
  have lt180 := Lit.stays (s := sb) lt167 hs175.1
  have lt181 := Lit.stays (s := sb) lt168 hs175.1
  have lt182 := Lit.stays (s := sb) lt169 hs175.1
  have lt183 := Lit.stays (s := sb) lt170 hs175.1
  have lt184 := Lit.stays (s := sb) lt171 hs175.1
  have C185 := CHr.trans C172 c173
  have O186 : Old Z n0 h173 := ((O159.keep Kq163 all0).ext E173)
  obtain ⟨v187, _, ⟨T187, L187, k187, n187⟩, -, X187, ⟨Lc187, hQ187, l187, y187, z187⟩, st187⟩ := Jvm.LawKit.callS X173 hx (y := mn16) hown (mvT hZ (wd51 hw)) (mvT hZ (wd52 hw)) (mvT hZ (wd32 hw)) (mvT hZ (wd53 hw)) (by decide) (backOf (W := 0) (rm_segN la Z a0 hw [] a173 m b h173 n0 O186) hZ (wd53 hw) (wd32 hw) (by decide) (by decide)) (g := (mkF mi 48 #[.val (.ref g), .val .null, .val (.ref m), .val (.ref b), .val .null] [(.ref b), (.ref m), .null, (.ref a173)])) rfl (by rw [hml]; rfl) (argsL := [(.ref a173), .null, (.ref m), (.ref b)]) (rest := []) (lenOf pd_12 rfl) rfl (by show 2 * 0 + _ ≤ _; exact Nat.le_of_eq rfl) (hb hby d_prog_9_method_1_code_48) (fun _ _ => ⟨rfl, e173, (by decide : 16 + 0 ≤ _), (by decide : 292 + 0 ≤ _)⟩)
  dsimp only [Pt.U, Pt.locs, Pt.cells, Pt.slots] at X187 l187 y187 z187 st187 hQ187
  subst l187 y187 z187
  obtain ⟨rfl, Nq187, ek187⟩ := hQ187
  have N187 := Fr.app N163 Nq187
  have f188 : Exa Z h173 g "com/example/beanloft/beanloft/naming/GlobalName" := ((((((((P0_.ext E102).ext E110).ext E119).ext E129).keep Kq140).ext E147).keep Kq163).ext E173)
  have f189 : Fld Z h173 g "com/example/beanloft/beanloft/naming/GlobalName" "appName" "Ljava/lang/String;" .null := ((((((((P1_.ext E102).ext E110).ext E119).ext E129).keep Kq140 nin0).ext E147).keep Kq163 nin0).ext E173)
  obtain ⟨T190, h190, X190, e190, W190, st190⟩ := putF X187 hx hZ hown (host := "") (Or.inl (wd99 hw)) Via.refl ek187 f189 f188 (Or.inr ⟨(wd100 hw), rfl, hnm⟩) (wd31 hw) (ty := (.object "java/lang/String")) (by decide) rfl rfl (g := (mkF mi 53 #[.val (.ref g), .val .null, .val (.ref m), .val (.ref b), .val .null] [.null, (.ref g)])) rfl rfl (hb hby d_prog_9_method_1_code_53)
  have N190 := Fr.snoc X190 N187 g_g
  have c191 := CHr.keep (Keep.of_wr W190) (sfS (Safe.exa hZ.alike f188 (by decide) (by decide)) sf0) C185.1
  have C192 := CHr.trans C185 c191
  have f193 : Fld Z h190 g "com/example/beanloft/beanloft/naming/GlobalName" "appName" "Ljava/lang/String;" .null := f189.same W190
  have f194 : Exa Z h190 g "com/example/beanloft/beanloft/naming/GlobalName" := (f188.keep (Keep.of_wr W190))
  have f195 : Fld Z h190 g "com/example/beanloft/beanloft/naming/GlobalName" "moduleName" "Ljava/lang/String;" .null := (((((((((P2_.ext E102).ext E110).ext E119).ext E129).keep Kq140 nin0).ext E147).keep Kq163 nin0).ext E173).other W190 (Or.inr (slot_ne (Or.inr (wd102 hw)) (Or.inr (wd100 hw)) (by decide) (t := (.object "java/lang/String")) (t' := (.object "java/lang/String")) (by decide) (by decide))))
  obtain ⟨T196, h196, X196, e196, W196, st196⟩ := putF X190 hx hZ hown (host := "") (Or.inl (wd101 hw)) Via.refl e190 f195 f194 (Or.inr ⟨(wd102 hw), rfl, hnm⟩) (wd31 hw) (ty := (.object "java/lang/String")) (by decide) rfl rfl (g := (mkF mi 58 #[.val (.ref g), .val .null, .val (.ref m), .val (.ref b), .val .null] [(.ref m), (.ref g)])) rfl rfl (hb hby d_prog_9_method_1_code_58)
  have N196 := Fr.snoc X196 N190 g_g
  have c197 := CHr.keep (Keep.of_wr W196) (sfS (Safe.exa hZ.alike f194 (by decide) (by decide)) sf0) C192.1
  have C198 := CHr.trans C192 c197
  have f199 : Fld Z h196 g "com/example/beanloft/beanloft/naming/GlobalName" "moduleName" "Ljava/lang/String;" (.ref m) := f195.same W196
  have f200 : Exa Z h196 g "com/example/beanloft/beanloft/naming/GlobalName" := (f194.keep (Keep.of_wr W196))
  have f201 : Fld Z h196 g "com/example/beanloft/beanloft/naming/GlobalName" "beanName" "Ljava/lang/String;" .null := ((((((((((P3_.ext E102).ext E110).ext E119).ext E129).keep Kq140 nin0).ext E147).keep Kq163 nin0).ext E173).other W190 (Or.inr (slot_ne (Or.inr (wd104 hw)) (Or.inr (wd100 hw)) (by decide) (t := (.object "java/lang/String")) (t' := (.object "java/lang/String")) (by decide) (by decide)))).other W196 (Or.inr (slot_ne (Or.inr (wd104 hw)) (Or.inr (wd102 hw)) (by decide) (t := (.object "java/lang/String")) (t' := (.object "java/lang/String")) (by decide) (by decide))))
  obtain ⟨T202, h202, X202, e202, W202, st202⟩ := putF X196 hx hZ hown (host := "") (Or.inl (wd103 hw)) Via.refl e196 f201 f200 (Or.inr ⟨(wd104 hw), rfl, hnm⟩) (wd31 hw) (ty := (.object "java/lang/String")) (by decide) rfl rfl (g := (mkF mi 63 #[.val (.ref g), .val .null, .val (.ref m), .val (.ref b), .val .null] [(.ref b), (.ref g)])) rfl rfl (hb hby d_prog_9_method_1_code_63)
  have N202 := Fr.snoc X202 N196 g_g
  have c203 := CHr.keep (Keep.of_wr W202) (sfS (Safe.exa hZ.alike f200 (by decide) (by decide)) sf0) C198.1
  have C204 := CHr.trans C198 c203
  have f205 : Fld Z h202 g "com/example/beanloft/beanloft/naming/GlobalName" "beanName" "Ljava/lang/String;" (.ref b) := f201.same W202
  have f206 : Exa Z h202 g "com/example/beanloft/beanloft/naming/GlobalName" := (f200.keep (Keep.of_wr W202))
  have f207 : Fld Z h202 g "com/example/beanloft/beanloft/naming/GlobalName" "viewName" "Ljava/lang/String;" .null := (((((((((((P4_.ext E102).ext E110).ext E119).ext E129).keep Kq140 nin0).ext E147).keep Kq163 nin0).ext E173).other W190 (Or.inr (slot_ne (Or.inr (wd106 hw)) (Or.inr (wd100 hw)) (by decide) (t := (.object "java/lang/String")) (t' := (.object "java/lang/String")) (by decide) (by decide)))).other W196 (Or.inr (slot_ne (Or.inr (wd106 hw)) (Or.inr (wd102 hw)) (by decide) (t := (.object "java/lang/String")) (t' := (.object "java/lang/String")) (by decide) (by decide)))).other W202 (Or.inr (slot_ne (Or.inr (wd106 hw)) (Or.inr (wd104 hw)) (by decide) (t := (.object "java/lang/String")) (t' := (.object "java/lang/String")) (by decide) (by decide))))
  obtain ⟨T208, h208, X208, e208, W208, st208⟩ := putF X202 hx hZ hown (host := "") (Or.inl (wd105 hw)) Via.refl e202 f207 f206 (Or.inr ⟨(wd106 hw), rfl, hnm⟩) (wd31 hw) (ty := (.object "java/lang/String")) (by decide) rfl rfl (g := (mkF mi 69 #[.val (.ref g), .val .null, .val (.ref m), .val (.ref b), .val .null] [.null, (.ref g)])) rfl rfl (hb hby d_prog_9_method_1_code_69)
  have N208 := Fr.snoc X208 N202 g_g
  have c209 := CHr.keep (Keep.of_wr W208) (sfS (Safe.exa hZ.alike f206 (by decide) (by decide)) sf0) C204.1
  have C210 := CHr.trans C204 c209
  have f211 : Fld Z h208 g "com/example/beanloft/beanloft/naming/GlobalName" "viewName" "Ljava/lang/String;" .null := f207.same W208
  have f212 : Exa Z h208 g "com/example/beanloft/beanloft/naming/GlobalName" := (f206.keep (Keep.of_wr W208))
  have f213 : Fld Z h208 g "com/example/beanloft/beanloft/naming/GlobalName" "appName" "Ljava/lang/String;" .null := (((f193.other W196 (Or.inr (slot_ne (Or.inr (wd100 hw)) (Or.inr (wd102 hw)) (by decide) (t := (.object "java/lang/String")) (t' := (.object "java/lang/String")) (by decide) (by decide)))).other W202 (Or.inr (slot_ne (Or.inr (wd100 hw)) (Or.inr (wd104 hw)) (by decide) (t := (.object "java/lang/String")) (t' := (.object "java/lang/String")) (by decide) (by decide)))).other W208 (Or.inr (slot_ne (Or.inr (wd100 hw)) (Or.inr (wd106 hw)) (by decide) (t := (.object "java/lang/String")) (t' := (.object "java/lang/String")) (by decide) (by decide))))
  have f214 : Fld Z h208 g "com/example/beanloft/beanloft/naming/GlobalName" "moduleName" "Ljava/lang/String;" (.ref m) := ((f199.other W202 (Or.inr (slot_ne (Or.inr (wd102 hw)) (Or.inr (wd104 hw)) (by decide) (t := (.object "java/lang/String")) (t' := (.object "java/lang/String")) (by decide) (by decide)))).other W208 (Or.inr (slot_ne (Or.inr (wd102 hw)) (Or.inr (wd106 hw)) (by decide) (t := (.object "java/lang/String")) (t' := (.object "java/lang/String")) (by decide) (by decide))))
  have f215 : Fld Z h208 g "com/example/beanloft/beanloft/naming/GlobalName" "beanName" "Ljava/lang/String;" (.ref b) := (f205.other W208 (Or.inr (slot_ne (Or.inr (wd104 hw)) (Or.inr (wd106 hw)) (by decide) (t := (.object "java/lang/String")) (t' := (.object "java/lang/String")) (by decide) (by decide))))
  obtain ⟨fs, hr, hrun, hended, hWe⟩ := X208.leaveW hS (show _ ≤ T208.heap.size by rw [e208]; exact (Nat.le_trans hk (Nat.le_trans (Nat.le_trans (Nat.le_trans (Keep.of_wr W190).1 (Keep.of_wr W196).1) (Keep.of_wr W202).1) (Keep.of_wr W208).1))) (v := none) (fun _ => rfl)
  refine ⟨_, _, pre174 _ ?_, hrun, hended, _, _, rfl, ?_, ?_, hWe.1, hWe.2.1, hWe.2.2.1, hWe.2.2.2.mono (by decide) (by decide)⟩
  · show Steps pg.tables ev below (T163.setTop (mkF mi 42 #[.val (.ref g), .val .null, .val (.ref m), .val (.ref b), .val .null] [])) _
    refine st173 _ ?_
    show Steps pg.tables ev below (T173.setTop (mkF mi 44 #[.val (.ref g), .val .null, .val (.ref m), .val (.ref b), .val .null] [(.ref a173)])) _
    refine XS.aload X173.here hx rfl (hb hby d_prog_9_method_1_code_44) rfl rfl ?_
    refine XS.aloadN X173.here hx rfl (hb hby d_prog_9_method_1_code_46) rfl rfl ?_
    refine XS.aloadN X173.here hx rfl (hb hby d_prog_9_method_1_code_47) rfl rfl ?_
    show Steps pg.tables ev below (T173.setTop (mkF mi 48 #[.val (.ref g), .val .null, .val (.ref m), .val (.ref b), .val .null] [(.ref b), (.ref m), .null, (.ref a173)])) _
    refine st187 _ ?_
    show Steps pg.tables ev below (T187.setTop (mkF mi 51 #[.val (.ref g), .val .null, .val (.ref m), .val (.ref b), .val .null] [])) _
    refine XS.aloadN X187.here hx rfl (hb hby d_prog_9_method_1_code_51) rfl rfl ?_
    refine XS.aloadN X187.here hx rfl (hb hby d_prog_9_method_1_code_52) rfl rfl ?_
    show Steps pg.tables ev below (T187.setTop (mkF mi 53 #[.val (.ref g), .val .null, .val (.ref m), .val (.ref b), .val .null] [.null, (.ref g)])) _
    refine st190 _ ?_
    show Steps pg.tables ev below (T190.setTop (mkF mi 56 #[.val (.ref g), .val .null, .val (.ref m), .val (.ref b), .val .null] [])) _
    refine XS.aloadN X190.here hx rfl (hb hby d_prog_9_method_1_code_56) rfl rfl ?_
    refine XS.aloadN X190.here hx rfl (hb hby d_prog_9_method_1_code_57) rfl rfl ?_
    show Steps pg.tables ev below (T190.setTop (mkF mi 58 #[.val (.ref g), .val .null, .val (.ref m), .val (.ref b), .val .null] [(.ref m), (.ref g)])) _
    refine st196 _ ?_
    show Steps pg.tables ev below (T196.setTop (mkF mi 61 #[.val (.ref g), .val .null, .val (.ref m), .val (.ref b), .val .null] [])) _
    refine XS.aloadN X196.here hx rfl (hb hby d_prog_9_method_1_code_61) rfl rfl ?_
    refine XS.aloadN X196.here hx rfl (hb hby d_prog_9_method_1_code_62) rfl rfl ?_
    show Steps pg.tables ev below (T196.setTop (mkF mi 63 #[.val (.ref g), .val .null, .val (.ref m), .val (.ref b), .val .null] [(.ref b), (.ref g)])) _
    refine st202 _ ?_
    show Steps pg.tables ev below (T202.setTop (mkF mi 66 #[.val (.ref g), .val .null, .val (.ref m), .val (.ref b), .val .null] [])) _
    refine XS.aloadN X202.here hx rfl (hb hby d_prog_9_method_1_code_66) rfl rfl ?_
    refine XS.aload X202.here hx rfl (hb hby d_prog_9_method_1_code_67) rfl rfl ?_
    show Steps pg.tables ev below (T202.setTop (mkF mi 69 #[.val (.ref g), .val .null, .val (.ref m), .val (.ref b), .val .null] [.null, (.ref g)])) _
    refine st208 _ ?_
    show Steps pg.tables ev below (T208.setTop (mkF mi 72 #[.val (.ref g), .val .null, .val (.ref m), .val (.ref b), .val .null] [])) _
    exact X208.returnOut hx Bd.returns (hb hby d_prog_9_method_1_code_72) hr
  · show Q_gin0110 Z g m tm cm0 b tb cb0 zc hE n0 _ T208.heap _
    rw [e208]
    exact ⟨rfl, N208, (((((((((((((Keep.refl hE [g]).ext E102).ext E110).ext E119).ext E129).trans Kq140 all0).ext E147).trans Kq163 all0).ext E173).trans (Keep.of_wr W190) (allS (Or.inl (List.mem_of_getElem? (i := 0) rfl)) all0)).trans (Keep.of_wr W196) (allS (Or.inl (List.mem_of_getElem? (i := 0) rfl)) all0)).trans (Keep.of_wr W202) (allS (Or.inl (List.mem_of_getElem? (i := 0) rfl)) all0)).trans (Keep.of_wr W208) (allS (Or.inl (List.mem_of_getElem? (i := 0) rfl)) all0)), f212, f213, f214, f215, f211⟩
  · show CHr Z ELs sb.vm sb.heap T208.vm T208.heap
    rw [hh, e208]
    exact CHr.trans C210 (CHv.at X208 hZ hEL C210.1)
theorem ef_gin0111 (mi : MethodId) (g : Addr) (m : Addr) (b : Addr) (v : Addr) : entryFrame mi #[(.ref g), .null, (.ref m), (.ref b), (.ref v)] 5 = mkF mi 0 #[.val (.ref g), .val .null, .val (.ref m), .val (.ref b), .val (.ref v)] [] := by first | (simp [entryFrame, mkF, argsToLocals, Value.category]; done) | rfl
def Q_gin0111 (Z : State) (g : Addr) (m : Addr) (tm : Addr) (cm0 : Int32) (b : Addr) (tb : Addr) (cb0 : Int32) (v : Addr) (tv : Addr) (cv0 : Int32) (zc : Int32) (hE : Heap) (n0 : Nat) (vv : Option Value) (hh : Heap) (LL : List Loc) : Prop := (vv = none) ∧ (Fr n0 LL) ∧ (Keep hE hh [g]) ∧ (Exa Z hh g "com/example/beanloft/beanloft/naming/GlobalName") ∧ (Fld Z hh g "com/example/beanloft/beanloft/naming/GlobalName" "appName" "Ljava/lang/String;" .null) ∧ (Fld Z hh g "com/example/beanloft/beanloft/naming/GlobalName" "moduleName" "Ljava/lang/String;" (.ref m)) ∧ (Fld Z hh g "com/example/beanloft/beanloft/naming/GlobalName" "beanName" "Ljava/lang/String;" (.ref b)) ∧ (Fld Z hh g "com/example/beanloft/beanloft/naming/GlobalName" "viewName" "Ljava/lang/String;" (.ref v))
set_option maxRecDepth 65536 in
set_option maxHeartbeats 40000000 in
theorem rm_gin0111 (la : Launch) (Z : State) (a0 : Array Value) (hw : ∀ d ∈ tables_1, d.before a0 Z = true) (ws : List Jvm.Cond) (g : Addr) (m : Addr) (tm : Addr) (cm0 : Int32) (b : Addr) (tb : Addr) (cb0 : Int32) (v : Addr) (tv : Addr) (cv0 : Int32) (zc : Int32) (hE : Heap) (n0 : Nat) (O : Old Z n0 hE) (P0_ : Exa Z hE g "com/example/beanloft/beanloft/naming/GlobalName") (P1_ : Fld Z hE g "com/example/beanloft/beanloft/naming/GlobalName" "appName" "Ljava/lang/String;" .null) (P2_ : Fld Z hE g "com/example/beanloft/beanloft/naming/GlobalName" "moduleName" "Ljava/lang/String;" .null) (P3_ : Fld Z hE g "com/example/beanloft/beanloft/naming/GlobalName" "beanName" "Ljava/lang/String;" .null) (P4_ : Fld Z hE g "com/example/beanloft/beanloft/naming/GlobalName" "viewName" "Ljava/lang/String;" .null) (P5_ : LStr Z hE m tm ([cm0] : List Int32)) (P6_ : LStr Z hE b tb ([cb0] : List Int32)) (P7_ : LStr Z hE v tv ([cv0] : List Int32)) (D0_ : Sta Z Z.heap "java/lang/String" "COMPACT_STRINGS" "Z" (.int zc)) (g_g : n0 ≤ g) (ne_m_g : m ≠ g) (ne_tm_g : tm ≠ g) (ne_b_g : b ≠ g) (ne_tb_g : tb ≠ g) (ne_v_g : v ≠ g) (ne_tv_g : tv ≠ g) (h47_cm0 : ¬ ((cm0.toInt8.toInt32) = (47 : Int32))) (h33_cm0 : ¬ ((cm0.toInt8.toInt32) = (33 : Int32))) (h47_cb0 : ¬ ((cb0.toInt8.toInt32) = (47 : Int32))) (h33_cb0 : ¬ ((cb0.toInt8.toInt32) = (33 : Int32))) (h47_cv0 : ¬ ((cv0.toInt8.toInt32) = (47 : Int32))) (h33_cv0 : ¬ ((cv0.toInt8.toInt32) = (33 : Int32))) (hzc : ¬ (zc = (0 : Int32))) :
    MetFree la mn17 (head1 (Jvm.Cond.code mn17 prog_9_method_1_code 5 none :: ws) ({ frames := 5, cells := 16, slots := 292, locals := 77 } : Room)) (fun aa UU => aa = #[(.ref g), .null, (.ref m), (.ref b), (.ref v)] ∧ Z.Warmed39 UU.vm ∧ UU.heap = hE ∧ CHv Z ELs UU.vm hE) (fun _ _ _ _ _ => True) (fun _ UU oo UV => ∃ vv LL, oo = .returned vv ∧ Q_gin0111 Z g m tm cm0 b tb cb0 v tv cv0 zc hE n0 vv UV.heap LL ∧ CHr Z ELs UU.vm UU.heap UV.vm UV.heap ∧ ReturnedEndW UU oo UV LL ({ frames := 5, cells := 16, slots := 292, locals := 77 } : Room).cells ({ frames := 5, cells := 16, slots := 292, locals := 77 } : Room).slots) := by
  refine MetFree.of_bodySF (plainFor_of_name pn_com_example_beanloft_beanloft_naming_GlobalName) hisR ?_
  intro pg ev sb mi gs below me cd s₁ Bd hml0 hPt hKt
  obtain ⟨rfl, hZ, hh, hH⟩ := hPt
  have hx := Bd.exec
  have hby := Bd.bytes
  have hml : cd.maxLocals = 5 := hml0
  have hown : sb.vm.findClass "com/example/beanloft/beanloft/naming/GlobalName" = some mi.cls := findClass_of_methodNamed Bd.named
  have hnm := (name_of_methodNamed Bd.named Bd.method).1
  have X0 : Stand pg la ev ({ frames := 5, cells := 16, slots := 292, locals := 77 } : Room) (sb.setVm sb.vm) mi #[(.ref g), .null, (.ref m), (.ref b), (.ref v)] below me cd s₁ [] 0 0 := Stand.of_body Bd
  have eE : s₁.heap = hE := by rw [← hh, Bd.state]; rfl
  have N0 := Fr.nil n0
  have pre0 : ∀ tt, Steps pg.tables ev below (s₁.setTop (mkF mi 0 #[.val (.ref g), .val .null, .val (.ref m), .val (.ref b), .val (.ref v)] [])) tt → Steps pg.tables ev below (s₁.setTop (entryFrame mi #[(.ref g), .null, (.ref m), (.ref b), (.ref v)] 5)) tt := fun tt kk => castTop (ef_gin0111 mi g m b v) kk
  have hS : sb.Since sb.vm 0 := (State.WarmedH.refl sb).since 0
  have hk : 0 ≤ hE.size := Nat.zero_le _
  have hEL := own_EW hw
  have C0 := CHr.refl hH
  obtain ⟨v101, _, ⟨T101, L101, k101, n101⟩, -, X101, ⟨Lc101, hQ101, l101, y101, z101⟩, st101⟩ := X0.specialBack hx (y := mn5) rfl hown (mvT hZ (wd36 hw)) (mvT hZ (wd37 hw)) (mvT hZ (wd40 hw)) (by decide) (backOf (W := 0) (rm_rec la Z a0 hw [] g hE n0 O) hZ (wd40 hw) (wd39 hw) (by decide) (by decide)) (g := (mkF mi 1 #[.val (.ref g), .val .null, .val (.ref m), .val (.ref b), .val (.ref v)] [(.ref g)])) rfl (by rw [hml]; rfl) (Steps.refl _) (a := g) (argsL := []) (rest := []) (lenOf pd_10 rfl) rfl (by show 2 * 0 + _ ≤ _; exact Nat.le_of_eq rfl) (hb hby d_prog_9_method_1_code_1) (fun _ _ => ⟨rfl, eE, (by decide : 0 + 0 ≤ _), (by decide : 0 + 0 ≤ _)⟩)
  dsimp only [Pt.U, Pt.locs, Pt.cells, Pt.slots] at X101 l101 y101 z101 st101 hQ101
  subst l101 y101 z101
  obtain ⟨rfl, Nq101, ek101⟩ := hQ101
  have N101 := Fr.app N0 Nq101
  have pre103 : ∀ tt, Steps pg.tables ev below (T101.setTop (mkF mi 5 #[.val (.ref g), .val .null, .val (.ref m), .val (.ref b), .val (.ref v)] [(.ref m)])) tt → Steps pg.tables ev below (s₁.setTop (entryFrame mi #[(.ref g), .null, (.ref m), (.ref b), (.ref v)] 5)) tt := fun tt kk => pre0 _ (by
    show Steps pg.tables ev below (s₁.setTop (mkF mi 0 #[.val (.ref g), .val .null, .val (.ref m), .val (.ref b), .val (.ref v)] [])) _
    refine XS.aloadN X0.here hx rfl (hb hby d_prog_9_method_1_code_0) rfl rfl ?_
    show Steps pg.tables ev below (s₁.setTop (mkF mi 1 #[.val (.ref g), .val .null, .val (.ref m), .val (.ref b), .val (.ref v)] [(.ref g)])) _
    refine st101.trans ?_
    show Steps pg.tables ev below (T101.setTop (mkF mi 4 #[.val (.ref g), .val .null, .val (.ref m), .val (.ref b), .val (.ref v)] [])) _
    refine XS.aloadN X101.here hx rfl (hb hby d_prog_9_method_1_code_4) rfl rfl ?_
    exact kk)
  obtain ⟨a102, T102, h102, k102, X102, e102, E102, hs104, hk105, hZ, hown, c102, lt106, st102⟩ := ldcOH (s := sb.setVm sb.vm) X101 hx hZ hown (wd42 hw) (own_wS hw) ek101 ((State.WarmedH.refl (sb.setVm sb.vm)).since 0) (Nat.zero_le _) hEL C0.1 (g := (mkF mi 5 #[.val (.ref g), .val .null, .val (.ref m), .val (.ref b), .val (.ref v)] [(.ref m)])) rfl (hb hby d_prog_9_method_1_code_5) (n := 40) (by decide) (by decide) (by decide) (by decide)
  have X102 := own_restand X102
  have hS := hS.trans (⟨hs104.1, hs104.2.mono hk105⟩ : (sb.setVm sb.vm).Since T102.vm h102.size) (Nat.le_trans hk E102.1)
  have hk : h102.size ≤ h102.size := Nat.le_refl _
  have C107 := CHr.trans C0 c102
  have O108 : Old Z n0 h102 := (O.ext E102)
  obtain ⟨v109, _, ⟨T109, L109, k109, n109⟩, -, X109, ⟨Lc109, hQ109, l109, y109, z109⟩, st109⟩ := Jvm.LawKit.callS X102 hx (y := mn6) hown (mvT hZ (wd45 hw)) (mvT hZ (wd46 hw)) (mvT hZ (wd47 hw)) (mvT hZ (wd48 hw)) (by decide) (backOf (W := 0) (rm_rnn2 la Z a0 hw [] m a102 h102 n0 O108) hZ (wd48 hw) (wd47 hw) (by decide) (by decide)) (g := (mkF mi 7 #[.val (.ref g), .val .null, .val (.ref m), .val (.ref b), .val (.ref v)] [(.ref a102), (.ref m)])) rfl (by rw [hml]; rfl) (argsL := [(.ref m), (.ref a102)]) (rest := []) (lenOf pd_11 rfl) rfl (by show 2 * 0 + _ ≤ _; exact Nat.le_of_eq rfl) (hb hby d_prog_9_method_1_code_7) (fun _ _ => ⟨rfl, e102, (by decide : 2 + 0 ≤ _), (by decide : 44 + 0 ≤ _)⟩)
  dsimp only [Pt.U, Pt.locs, Pt.cells, Pt.slots] at X109 l109 y109 z109 st109 hQ109
  subst l109 y109 z109
  obtain ⟨rfl, Nq109, ek109⟩ := hQ109
  have N109 := Fr.app N101 Nq109
  have pre111 : ∀ tt, Steps pg.tables ev below (T109.setTop (mkF mi 12 #[.val (.ref g), .val .null, .val (.ref m), .val (.ref b), .val (.ref v)] [(.ref b)])) tt → Steps pg.tables ev below (s₁.setTop (entryFrame mi #[(.ref g), .null, (.ref m), (.ref b), (.ref v)] 5)) tt := fun tt kk => pre103 _ (by
    show Steps pg.tables ev below (T101.setTop (mkF mi 5 #[.val (.ref g), .val .null, .val (.ref m), .val (.ref b), .val (.ref v)] [(.ref m)])) _
    refine st102 _ ?_
    show Steps pg.tables ev below (T102.setTop (mkF mi 7 #[.val (.ref g), .val .null, .val (.ref m), .val (.ref b), .val (.ref v)] [(.ref a102), (.ref m)])) _
    refine st109 _ ?_
    show Steps pg.tables ev below (T109.setTop (mkF mi 10 #[.val (.ref g), .val .null, .val (.ref m), .val (.ref b), .val (.ref v)] [(.ref m)])) _
    refine XS.pop X109.here hx rfl (hb hby d_prog_9_method_1_code_10) rfl rfl ?_
    refine XS.aloadN X109.here hx rfl (hb hby d_prog_9_method_1_code_11) rfl rfl ?_
    exact kk)
  obtain ⟨a110, T110, h110, k110, X110, e110, E110, hs112, hk113, hZ, hown, c110, lt114, st110⟩ := ldcOH (s := sb.setVm T102.vm) X109 hx hZ hown (wd49 hw) (own_wS hw) ek109 ((State.WarmedH.refl (sb.setVm T102.vm)).since 0) (Nat.zero_le _) hEL C107.1 (g := (mkF mi 12 #[.val (.ref g), .val .null, .val (.ref m), .val (.ref b), .val (.ref v)] [(.ref b)])) rfl (hb hby d_prog_9_method_1_code_12) (n := 32) (by decide) (by decide) (by decide) (by decide)
  have X110 := own_restand X110
  have hS := hS.trans (⟨hs112.1, hs112.2.mono hk113⟩ : (sb.setVm T102.vm).Since T110.vm h110.size) (Nat.le_trans hk E110.1)
  have hk : h110.size ≤ h110.size := Nat.le_refl _
  have lt115 := Lit.stays (s := sb) lt106 hs112.1
  have C116 := CHr.trans C107 c110
  have O117 : Old Z n0 h110 := (O108.ext E110)
  obtain ⟨v118, _, ⟨T118, L118, k118, n118⟩, -, X118, ⟨Lc118, hQ118, l118, y118, z118⟩, st118⟩ := Jvm.LawKit.callS X110 hx (y := mn6) hown (mvT hZ (wd45 hw)) (mvT hZ (wd46 hw)) (mvT hZ (wd47 hw)) (mvT hZ (wd48 hw)) (by decide) (backOf (W := 0) (rm_rnn2 la Z a0 hw [] b a110 h110 n0 O117) hZ (wd48 hw) (wd47 hw) (by decide) (by decide)) (g := (mkF mi 14 #[.val (.ref g), .val .null, .val (.ref m), .val (.ref b), .val (.ref v)] [(.ref a110), (.ref b)])) rfl (by rw [hml]; rfl) (argsL := [(.ref b), (.ref a110)]) (rest := []) (lenOf pd_11 rfl) rfl (by show 2 * 0 + _ ≤ _; exact Nat.le_of_eq rfl) (hb hby d_prog_9_method_1_code_14) (fun _ _ => ⟨rfl, e110, (by decide : 4 + 0 ≤ _), (by decide : 80 + 0 ≤ _)⟩)
  dsimp only [Pt.U, Pt.locs, Pt.cells, Pt.slots] at X118 l118 y118 z118 st118 hQ118
  subst l118 y118 z118
  obtain ⟨rfl, Nq118, ek118⟩ := hQ118
  have N118 := Fr.app N109 Nq118
  have pre120 : ∀ tt, Steps pg.tables ev below (T118.setTop (mkF mi 18 #[.val (.ref g), .val .null, .val (.ref m), .val (.ref b), .val (.ref v)] [])) tt → Steps pg.tables ev below (s₁.setTop (entryFrame mi #[(.ref g), .null, (.ref m), (.ref b), (.ref v)] 5)) tt := fun tt kk => pre111 _ (by
    show Steps pg.tables ev below (T109.setTop (mkF mi 12 #[.val (.ref g), .val .null, .val (.ref m), .val (.ref b), .val (.ref v)] [(.ref b)])) _
    refine st110 _ ?_
    show Steps pg.tables ev below (T110.setTop (mkF mi 14 #[.val (.ref g), .val .null, .val (.ref m), .val (.ref b), .val (.ref v)] [(.ref a110), (.ref b)])) _
    refine st118 _ ?_
    show Steps pg.tables ev below (T118.setTop (mkF mi 17 #[.val (.ref g), .val .null, .val (.ref m), .val (.ref b), .val (.ref v)] [(.ref b)])) _
    refine XS.pop X118.here hx rfl (hb hby d_prog_9_method_1_code_17) rfl rfl ?_
    exact kk)
  obtain ⟨a119, T119, h119, k119, X119, e119, E119, hs121, hk122, hZ, hown, c119, lt123, st119⟩ := ldcOH (s := sb.setVm T110.vm) X118 hx hZ hown (wd50 hw) (own_wS hw) ek118 ((State.WarmedH.refl (sb.setVm T110.vm)).since 0) (Nat.zero_le _) hEL C116.1 (g := (mkF mi 18 #[.val (.ref g), .val .null, .val (.ref m), .val (.ref b), .val (.ref v)] [])) rfl (hb hby d_prog_9_method_1_code_18) (n := 64) (by decide) (by decide) (by decide) (by decide)
  have X119 := own_restand X119
  have hS := hS.trans (⟨hs121.1, hs121.2.mono hk122⟩ : (sb.setVm T110.vm).Since T119.vm h119.size) (Nat.le_trans hk E119.1)
  have hk : h119.size ≤ h119.size := Nat.le_refl _
  have lt124 := Lit.stays (s := sb) lt115 hs121.1
  have lt125 := Lit.stays (s := sb) lt114 hs121.1
  have C126 := CHr.trans C116 c119
  have O127 : Old Z n0 h119 := (O117.ext E119)
  obtain ⟨v128, _, ⟨T128, L128, k128, n128⟩, -, X128, ⟨Lc128, hQ128, l128, y128, z128⟩, st128⟩ := Jvm.LawKit.callS X119 hx (y := mn16) hown (mvT hZ (wd51 hw)) (mvT hZ (wd52 hw)) (mvT hZ (wd32 hw)) (mvT hZ (wd53 hw)) (by decide) (backOf (W := 0) (rm_segN la Z a0 hw [] a119 m b h119 n0 O127) hZ (wd53 hw) (wd32 hw) (by decide) (by decide)) (g := (mkF mi 23 #[.val (.ref g), .val .null, .val (.ref m), .val (.ref b), .val (.ref v)] [(.ref b), (.ref m), .null, (.ref a119)])) rfl (by rw [hml]; rfl) (argsL := [(.ref a119), .null, (.ref m), (.ref b)]) (rest := []) (lenOf pd_12 rfl) rfl (by show 2 * 0 + _ ≤ _; exact Nat.le_of_eq rfl) (hb hby d_prog_9_method_1_code_23) (fun _ _ => ⟨rfl, e119, (by decide : 6 + 0 ≤ _), (by decide : 148 + 0 ≤ _)⟩)
  dsimp only [Pt.U, Pt.locs, Pt.cells, Pt.slots] at X128 l128 y128 z128 st128 hQ128
  subst l128 y128 z128
  obtain ⟨rfl, Nq128, ek128⟩ := hQ128
  have N128 := Fr.app N118 Nq128
  have pre130 : ∀ tt, Steps pg.tables ev below (T128.setTop (mkF mi 26 #[.val (.ref g), .val .null, .val (.ref m), .val (.ref b), .val (.ref v)] [])) tt → Steps pg.tables ev below (s₁.setTop (entryFrame mi #[(.ref g), .null, (.ref m), (.ref b), (.ref v)] 5)) tt := fun tt kk => pre120 _ (by
    show Steps pg.tables ev below (T118.setTop (mkF mi 18 #[.val (.ref g), .val .null, .val (.ref m), .val (.ref b), .val (.ref v)] [])) _
    refine st119 _ ?_
    show Steps pg.tables ev below (T119.setTop (mkF mi 20 #[.val (.ref g), .val .null, .val (.ref m), .val (.ref b), .val (.ref v)] [(.ref a119)])) _
    refine XS.aloadN X119.here hx rfl (hb hby d_prog_9_method_1_code_20) rfl rfl ?_
    refine XS.aloadN X119.here hx rfl (hb hby d_prog_9_method_1_code_21) rfl rfl ?_
    refine XS.aloadN X119.here hx rfl (hb hby d_prog_9_method_1_code_22) rfl rfl ?_
    show Steps pg.tables ev below (T119.setTop (mkF mi 23 #[.val (.ref g), .val .null, .val (.ref m), .val (.ref b), .val (.ref v)] [(.ref b), (.ref m), .null, (.ref a119)])) _
    refine st128 _ ?_
    exact kk)
  obtain ⟨a129, T129, h129, k129, X129, e129, E129, hs131, hk132, hZ, hown, c129, lt133, st129⟩ := ldcOH (s := sb.setVm T119.vm) X128 hx hZ hown (wd54 hw) (own_wS hw) ek128 ((State.WarmedH.refl (sb.setVm T119.vm)).since 0) (Nat.zero_le _) hEL C126.1 (g := (mkF mi 26 #[.val (.ref g), .val .null, .val (.ref m), .val (.ref b), .val (.ref v)] [])) rfl (hb hby d_prog_9_method_1_code_26) (n := 44) (by decide) (by decide) (by decide) (by decide)
  have X129 := own_restand X129
  have hS := hS.trans (⟨hs131.1, hs131.2.mono hk132⟩ : (sb.setVm T119.vm).Since T129.vm h129.size) (Nat.le_trans hk E129.1)
  have hk : h129.size ≤ h129.size := Nat.le_refl _
  have lt134 := Lit.stays (s := sb) lt124 hs131.1
  have lt135 := Lit.stays (s := sb) lt125 hs131.1
  have lt136 := Lit.stays (s := sb) lt123 hs131.1
  have C137 := CHr.trans C126 c129
  have O138 : Old Z n0 h129 := (O127.ext E129)
  have f139 : LStr Z h129 m tm ([cm0] : List Int32) := ((((P5_.ext E102).ext E110).ext E119).ext E129)
  have pre141 : ∀ tt, Steps pg.tables ev below (T129.setTop (mkF mi 31 #[.val (.ref g), .val .null, .val (.ref m), .val (.ref b), .val (.ref v)] [(.ref b), (.ref m), (.ref m), (.ref a129)])) tt → Steps pg.tables ev below (s₁.setTop (entryFrame mi #[(.ref g), .null, (.ref m), (.ref b), (.ref v)] 5)) tt := fun tt kk => pre130 _ (by
    show Steps pg.tables ev below (T128.setTop (mkF mi 26 #[.val (.ref g), .val .null, .val (.ref m), .val (.ref b), .val (.ref v)] [])) _
    refine st129 _ ?_
    show Steps pg.tables ev below (T129.setTop (mkF mi 28 #[.val (.ref g), .val .null, .val (.ref m), .val (.ref b), .val (.ref v)] [(.ref a129)])) _
    refine XS.aloadN X129.here hx rfl (hb hby d_prog_9_method_1_code_28) rfl rfl ?_
    refine XS.aloadN X129.here hx rfl (hb hby d_prog_9_method_1_code_29) rfl rfl ?_
    refine XS.aloadN X129.here hx rfl (hb hby d_prog_9_method_1_code_30) rfl rfl ?_
    exact kk)
  obtain ⟨v140, _, ⟨T140, L140, k140, n140⟩, -, X140, s140, gr140, ⟨Lc140, hQ140, l140, y140, z140, c140, ly0_140, lu0_140, ly1_140, lu1_140, ll0_140, ls0_140, ll1_140, ls1_140⟩, st140⟩ := callSS X129 hx (y := mn16) hown (mvT hZ (wd51 hw)) (mvT hZ (wd52 hw)) (mvT hZ (wd32 hw)) (mvT hZ (wd53 hw)) (by decide) (own_backSL (W := 0) (LP := fun vm => True) (LQ := fun vm h => ∃ ly0 lu0 ly1 lu1 : Addr, Lit (Z.setVm vm) "com/example/beanloft/beanloft/naming/GlobalName" 125 ly0 ∧ LStr Z h ly0 lu0 ([(47 : Int32)] : List Int32) ∧ Lit (Z.setVm vm) "com/example/beanloft/beanloft/naming/GlobalName" 131 ly1 ∧ LStr Z h ly1 lu1 ([(33 : Int32)] : List Int32)) (fun hW => trivial) (rm_seg1 la Z a0 hw [] a129 m m b tm cm0 zc h129 n0 O138 f139 D0_ (h47_cm0 : ¬ ((cm0.toInt8.toInt32) = (47 : Int32))) (h33_cm0 : ¬ ((cm0.toInt8.toInt32) = (33 : Int32))) (hzc : ¬ (zc = (0 : Int32)))) hZ (wd53 hw) (wd32 hw) (by decide) (by decide) hEL C137.1) (g := (mkF mi 31 #[.val (.ref g), .val .null, .val (.ref m), .val (.ref b), .val (.ref v)] [(.ref b), (.ref m), (.ref m), (.ref a129)])) rfl (by rw [hml]; rfl) (argsL := [(.ref a129), (.ref m), (.ref m), (.ref b)]) (rest := []) (lenOf pd_12 rfl) rfl (by show 2 * 0 + _ ≤ _; exact Nat.le_of_eq rfl) (hb hby d_prog_9_method_1_code_31) (fun _ _ => ⟨rfl, e129, (by decide : 8 + 4 ≤ _), (by decide : 196 + 16 ≤ _)⟩)
  dsimp only [Pt.U, Pt.locs, Pt.cells, Pt.slots] at X140 s140 gr140 l140 y140 z140 c140 st140 hQ140
  subst l140 y140 z140
  dsimp only [Pt.U] at ll0_140 ls0_140 ll1_140 ls1_140
  have lt142 := Lit.stays (s := sb) lt134 s140.1
  have lt143 := Lit.stays (s := sb) lt135 s140.1
  have lt144 := Lit.stays (s := sb) lt136 s140.1
  have lt145 := Lit.stays (s := sb) lt133 s140.1
  obtain ⟨X140, hS, hZ, hown⟩ := rebS hS (show _ ≤ T129.heap.size by rw [e129]; exact hk) X140 s140 gr140 hZ hown
  have hk : T140.heap.size ≤ T140.heap.size := Nat.le_refl _
  obtain ⟨rfl, Nq140, Kq140⟩ := hQ140
  have N140 := Fr.app N128 Nq140
  have C146 := CHr.trans C137 c140
  have pre148 : ∀ tt, Steps pg.tables ev below (T140.setTop (mkF mi 34 #[.val (.ref g), .val .null, .val (.ref m), .val (.ref b), .val (.ref v)] [])) tt → Steps pg.tables ev below (s₁.setTop (entryFrame mi #[(.ref g), .null, (.ref m), (.ref b), (.ref v)] 5)) tt := fun tt kk => pre141 _ (by
    show Steps pg.tables ev below (T129.setTop (mkF mi 31 #[.val (.ref g), .val .null, .val (.ref m), .val (.ref b), .val (.ref v)] [(.ref b), (.ref m), (.ref m), (.ref a129)])) _
    refine st140.trans ?_
    exact kk)
  obtain ⟨a147, T147, h147, k147, X147, e147, E147, hs149, hk150, hZ, hown, c147, lt151, st147⟩ := ldcOH (s := sb.setVm T140.vm) X140 hx hZ hown (wd97 hw) (own_wS hw) rfl ((State.WarmedH.refl (sb.setVm T140.vm)).since 0) (Nat.zero_le _) hEL C146.1 (g := (mkF mi 34 #[.val (.ref g), .val .null, .val (.ref m), .val (.ref b), .val (.ref v)] [])) rfl (hb hby d_prog_9_method_1_code_34) (n := 36) (by decide) (by decide) (by decide) (by decide)
  have X147 := own_restand X147
  have hS := hS.trans (⟨hs149.1, hs149.2.mono hk150⟩ : (sb.setVm T140.vm).Since T147.vm h147.size) (Nat.le_trans hk E147.1)
  have hk : h147.size ≤ h147.size := Nat.le_refl _
  have lt152 := Lit.stays (s := sb) lt142 hs149.1
  have lt153 := Lit.stays (s := sb) lt143 hs149.1
  have lt154 := Lit.stays (s := sb) lt144 hs149.1
  have lt155 := Lit.stays (s := sb) lt145 hs149.1
  have lt156 := Lit.stays (s := sb) ll0_140 hs149.1
  have lt157 := Lit.stays (s := sb) ll1_140 hs149.1
  have C158 := CHr.trans C146 c147
  have O159 : Old Z n0 h147 := ((O138.keep Kq140 all0).ext E147)
  have f160 : LStr Z h147 b tb ([cb0] : List Int32) := ((((((P6_.ext E102).ext E110).ext E119).ext E129).keep Kq140 nin0 nin0).ext E147)
  have f161 : LStr Z h147 ly0_140 lu0_140 ([(47 : Int32)] : List Int32) := (ls0_140.ext E147)
  have f162 : LStr Z h147 ly1_140 lu1_140 ([(33 : Int32)] : List Int32) := (ls1_140.ext E147)
  have pre164 : ∀ tt, Steps pg.tables ev below (T147.setTop (mkF mi 39 #[.val (.ref g), .val .null, .val (.ref m), .val (.ref b), .val (.ref v)] [(.ref b), (.ref m), (.ref b), (.ref a147)])) tt → Steps pg.tables ev below (s₁.setTop (entryFrame mi #[(.ref g), .null, (.ref m), (.ref b), (.ref v)] 5)) tt := fun tt kk => pre148 _ (by
    show Steps pg.tables ev below (T140.setTop (mkF mi 34 #[.val (.ref g), .val .null, .val (.ref m), .val (.ref b), .val (.ref v)] [])) _
    refine st147 _ ?_
    show Steps pg.tables ev below (T147.setTop (mkF mi 36 #[.val (.ref g), .val .null, .val (.ref m), .val (.ref b), .val (.ref v)] [(.ref a147)])) _
    refine XS.aloadN X147.here hx rfl (hb hby d_prog_9_method_1_code_36) rfl rfl ?_
    refine XS.aloadN X147.here hx rfl (hb hby d_prog_9_method_1_code_37) rfl rfl ?_
    refine XS.aloadN X147.here hx rfl (hb hby d_prog_9_method_1_code_38) rfl rfl ?_
    exact kk)
  obtain ⟨v163, _, ⟨T163, L163, k163, n163⟩, -, X163, s163, gr163, ⟨Lc163, hQ163, l163, y163, z163, c163, -⟩, st163⟩ := callSS X147 hx (y := mn16) hown (mvT hZ (wd51 hw)) (mvT hZ (wd52 hw)) (mvT hZ (wd32 hw)) (mvT hZ (wd53 hw)) (by decide) (own_backSL (W := 0) (LP := fun vm => Lit (Z.setVm vm) "com/example/beanloft/beanloft/naming/GlobalName" 125 ly0_140 ∧ Lit (Z.setVm vm) "com/example/beanloft/beanloft/naming/GlobalName" 131 ly1_140) (LQ := fun vm h => True) (fun hW => ⟨Lit.stays (s := sb) lt156 hW, Lit.stays (s := sb) lt157 hW⟩) (rm_seg1L la Z a0 hw [] a147 b m b tb ly0_140 lu0_140 ly1_140 lu1_140 cb0 zc h147 n0 O159 f160 f161 f162 D0_ (h47_cb0 : ¬ ((cb0.toInt8.toInt32) = (47 : Int32))) (h33_cb0 : ¬ ((cb0.toInt8.toInt32) = (33 : Int32))) (hzc : ¬ (zc = (0 : Int32)))) hZ (wd53 hw) (wd32 hw) (by decide) (by decide) hEL C158.1) (g := (mkF mi 39 #[.val (.ref g), .val .null, .val (.ref m), .val (.ref b), .val (.ref v)] [(.ref b), (.ref m), (.ref b), (.ref a147)])) rfl (by rw [hml]; rfl) (argsL := [(.ref a147), (.ref b), (.ref m), (.ref b)]) (rest := []) (lenOf pd_12 rfl) rfl (by show 2 * 0 + _ ≤ _; exact Nat.le_of_eq rfl) (hb hby d_prog_9_method_1_code_39) (fun _ _ => ⟨rfl, e147, (by decide : 14 + 0 ≤ _), (by decide : 252 + 0 ≤ _)⟩)
  dsimp only [Pt.U, Pt.locs, Pt.cells, Pt.slots] at X163 s163 gr163 l163 y163 z163 c163 st163 hQ163
  subst l163 y163 z163
  have lt165 := Lit.stays (s := sb) lt152 s163.1
  have lt166 := Lit.stays (s := sb) lt153 s163.1
  have lt167 := Lit.stays (s := sb) lt154 s163.1
  have lt168 := Lit.stays (s := sb) lt155 s163.1
  have lt169 := Lit.stays (s := sb) lt156 s163.1
  have lt170 := Lit.stays (s := sb) lt157 s163.1
  have lt171 := Lit.stays (s := sb) lt151 s163.1
  obtain ⟨X163, hS, hZ, hown⟩ := rebS hS (show _ ≤ T147.heap.size by rw [e147]; exact hk) X163 s163 gr163 hZ hown
  have hk : T163.heap.size ≤ T163.heap.size := Nat.le_refl _
  obtain ⟨rfl, Nq163, Kq163⟩ := hQ163
  have N163 := Fr.app N140 Nq163
  have C172 := CHr.trans C158 c163
  have pre174 : ∀ tt, Steps pg.tables ev below (T163.setTop (mkF mi 42 #[.val (.ref g), .val .null, .val (.ref m), .val (.ref b), .val (.ref v)] [])) tt → Steps pg.tables ev below (s₁.setTop (entryFrame mi #[(.ref g), .null, (.ref m), (.ref b), (.ref v)] 5)) tt := fun tt kk => pre164 _ (by
    show Steps pg.tables ev below (T147.setTop (mkF mi 39 #[.val (.ref g), .val .null, .val (.ref m), .val (.ref b), .val (.ref v)] [(.ref b), (.ref m), (.ref b), (.ref a147)])) _
    refine st163.trans ?_
    exact kk)
  obtain ⟨a173, T173, h173, k173, X173, e173, E173, hs175, hk176, hZ, hown, c173, lt177, st173⟩ := ldcOH (s := sb.setVm T163.vm) X163 hx hZ hown (wd98 hw) (own_wS hw) rfl ((State.WarmedH.refl (sb.setVm T163.vm)).since 0) (Nat.zero_le _) hEL C172.1 (g := (mkF mi 42 #[.val (.ref g), .val .null, .val (.ref m), .val (.ref b), .val (.ref v)] [])) rfl (hb hby d_prog_9_method_1_code_42) (n := 36) (by decide) (by decide) (by decide) (by decide)
  have X173 := own_restand X173
  have hS := hS.trans (⟨hs175.1, hs175.2.mono hk176⟩ : (sb.setVm T163.vm).Since T173.vm h173.size) (Nat.le_trans hk E173.1)
  have hk : h173.size ≤ h173.size := Nat.le_refl _
  have lt178 := Lit.stays (s := sb) lt165 hs175.1
  have lt179 := Lit.stays (s := sb) lt166 hs175.1
  have lt180 := Lit.stays (s := sb) lt167 hs175.1
  have lt181 := Lit.stays (s := sb) lt168 hs175.1
  have lt182 := Lit.stays (s := sb) lt169 hs175.1
  have lt183 := Lit.stays (s := sb) lt170 hs175.1
  have lt184 := Lit.stays (s := sb) lt171 hs175.1
  have C185 := CHr.trans C172 c173
  have O186 : Old Z n0 h173 := ((O159.keep Kq163 all0).ext E173)
  have f187 : LStr Z h173 v tv ([cv0] : List Int32) := ((((((((P7_.ext E102).ext E110).ext E119).ext E129).keep Kq140 nin0 nin0).ext E147).keep Kq163 nin0 nin0).ext E173)
  have f188 : LStr Z h173 ly0_140 lu0_140 ([(47 : Int32)] : List Int32) := ((f161.keep Kq163 nin0 nin0).ext E173)
  have f189 : LStr Z h173 ly1_140 lu1_140 ([(33 : Int32)] : List Int32) := ((f162.keep Kq163 nin0 nin0).ext E173)
  have pre191 : ∀ tt, Steps pg.tables ev below (T173.setTop (mkF mi 48 #[.val (.ref g), .val .null, .val (.ref m), .val (.ref b), .val (.ref v)] [(.ref b), (.ref m), (.ref v), (.ref a173)])) tt → Steps pg.tables ev below (s₁.setTop (entryFrame mi #[(.ref g), .null, (.ref m), (.ref b), (.ref v)] 5)) tt := fun tt kk => pre174 _ (by
    show Steps pg.tables ev below (T163.setTop (mkF mi 42 #[.val (.ref g), .val .null, .val (.ref m), .val (.ref b), .val (.ref v)] [])) _
    refine st173 _ ?_
    show Steps pg.tables ev below (T173.setTop (mkF mi 44 #[.val (.ref g), .val .null, .val (.ref m), .val (.ref b), .val (.ref v)] [(.ref a173)])) _
    refine XS.aload X173.here hx rfl (hb hby d_prog_9_method_1_code_44) rfl rfl ?_
    refine XS.aloadN X173.here hx rfl (hb hby d_prog_9_method_1_code_46) rfl rfl ?_
    refine XS.aloadN X173.here hx rfl (hb hby d_prog_9_method_1_code_47) rfl rfl ?_
    exact kk)
  obtain ⟨v190, _, ⟨T190, L190, k190, n190⟩, -, X190, s190, gr190, ⟨Lc190, hQ190, l190, y190, z190, c190, -⟩, st190⟩ := callSS X173 hx (y := mn16) hown (mvT hZ (wd51 hw)) (mvT hZ (wd52 hw)) (mvT hZ (wd32 hw)) (mvT hZ (wd53 hw)) (by decide) (own_backSL (W := 0) (LP := fun vm => Lit (Z.setVm vm) "com/example/beanloft/beanloft/naming/GlobalName" 125 ly0_140 ∧ Lit (Z.setVm vm) "com/example/beanloft/beanloft/naming/GlobalName" 131 ly1_140) (LQ := fun vm h => True) (fun hW => ⟨Lit.stays (s := sb) lt182 hW, Lit.stays (s := sb) lt183 hW⟩) (rm_seg1L la Z a0 hw [] a173 v m b tv ly0_140 lu0_140 ly1_140 lu1_140 cv0 zc h173 n0 O186 f187 f188 f189 D0_ (h47_cv0 : ¬ ((cv0.toInt8.toInt32) = (47 : Int32))) (h33_cv0 : ¬ ((cv0.toInt8.toInt32) = (33 : Int32))) (hzc : ¬ (zc = (0 : Int32)))) hZ (wd53 hw) (wd32 hw) (by decide) (by decide) hEL C185.1) (g := (mkF mi 48 #[.val (.ref g), .val .null, .val (.ref m), .val (.ref b), .val (.ref v)] [(.ref b), (.ref m), (.ref v), (.ref a173)])) rfl (by rw [hml]; rfl) (argsL := [(.ref a173), (.ref v), (.ref m), (.ref b)]) (rest := []) (lenOf pd_12 rfl) rfl (by show 2 * 0 + _ ≤ _; exact Nat.le_of_eq rfl) (hb hby d_prog_9_method_1_code_48) (fun _ _ => ⟨rfl, e173, (by decide : 16 + 0 ≤ _), (by decide : 292 + 0 ≤ _)⟩)
  dsimp only [Pt.U, Pt.locs, Pt.cells, Pt.slots] at X190 s190 gr190 l190 y190 z190 c190 st190 hQ190
  subst l190 y190 z190
  have lt192 := Lit.stays (s := sb) lt178 s190.1
  have lt193 := Lit.stays (s := sb) lt179 s190.1
  have lt194 := Lit.stays (s := sb) lt180 s190.1
  have lt195 := Lit.stays (s := sb) lt181 s190.1
  have lt196 := Lit.stays (s := sb) lt182 s190.1
  have lt197 := Lit.stays (s := sb) lt183 s190.1
  have lt198 := Lit.stays (s := sb) lt184 s190.1
  have lt199 := Lit.stays (s := sb) lt177 s190.1
  obtain ⟨X190, hS, hZ, hown⟩ := rebS hS (show _ ≤ T173.heap.size by rw [e173]; exact hk) X190 s190 gr190 hZ hown
  have hk : T190.heap.size ≤ T190.heap.size := Nat.le_refl _
  obtain ⟨rfl, Nq190, Kq190⟩ := hQ190
  have N190 := Fr.app N163 Nq190
  have C200 := CHr.trans C185 c190
  have f201 : Exa Z T190.heap g "com/example/beanloft/beanloft/naming/GlobalName" := (((((((((P0_.ext E102).ext E110).ext E119).ext E129).keep Kq140).ext E147).keep Kq163).ext E173).keep Kq190)
  have f202 : Fld Z T190.heap g "com/example/beanloft/beanloft/naming/GlobalName" "appName" "Ljava/lang/String;" .null := (((((((((P1_.ext E102).ext E110).ext E119).ext E129).keep Kq140 nin0).ext E147).keep Kq163 nin0).ext E173).keep Kq190 nin0)
  obtain ⟨T203, h203, X203, e203, W203, st203⟩ := putF X190 hx hZ hown (host := "") (Or.inl (wd99 hw)) Via.refl rfl f202 f201 (Or.inr ⟨(wd100 hw), rfl, hnm⟩) (wd31 hw) (ty := (.object "java/lang/String")) (by decide) rfl rfl (g := (mkF mi 53 #[.val (.ref g), .val .null, .val (.ref m), .val (.ref b), .val (.ref v)] [.null, (.ref g)])) rfl rfl (hb hby d_prog_9_method_1_code_53)
  have N203 := Fr.snoc X203 N190 g_g
  have c204 := CHr.keep (Keep.of_wr W203) (sfS (Safe.exa hZ.alike f201 (by decide) (by decide)) sf0) C200.1
  have C205 := CHr.trans C200 c204
  have f206 : Fld Z h203 g "com/example/beanloft/beanloft/naming/GlobalName" "appName" "Ljava/lang/String;" .null := f202.same W203
  have f207 : Exa Z h203 g "com/example/beanloft/beanloft/naming/GlobalName" := (f201.keep (Keep.of_wr W203))
  have f208 : Fld Z h203 g "com/example/beanloft/beanloft/naming/GlobalName" "moduleName" "Ljava/lang/String;" .null := ((((((((((P2_.ext E102).ext E110).ext E119).ext E129).keep Kq140 nin0).ext E147).keep Kq163 nin0).ext E173).keep Kq190 nin0).other W203 (Or.inr (slot_ne (Or.inr (wd102 hw)) (Or.inr (wd100 hw)) (by decide) (t := (.object "java/lang/String")) (t' := (.object "java/lang/String")) (by decide) (by decide))))
  obtain ⟨T209, h209, X209, e209, W209, st209⟩ := putF X203 hx hZ hown (host := "") (Or.inl (wd101 hw)) Via.refl e203 f208 f207 (Or.inr ⟨(wd102 hw), rfl, hnm⟩) (wd31 hw) (ty := (.object "java/lang/String")) (by decide) rfl rfl (g := (mkF mi 58 #[.val (.ref g), .val .null, .val (.ref m), .val (.ref b), .val (.ref v)] [(.ref m), (.ref g)])) rfl rfl (hb hby d_prog_9_method_1_code_58)
  have N209 := Fr.snoc X209 N203 g_g
  have c210 := CHr.keep (Keep.of_wr W209) (sfS (Safe.exa hZ.alike f207 (by decide) (by decide)) sf0) C205.1
  have C211 := CHr.trans C205 c210
  have f212 : Fld Z h209 g "com/example/beanloft/beanloft/naming/GlobalName" "moduleName" "Ljava/lang/String;" (.ref m) := f208.same W209
  have f213 : Exa Z h209 g "com/example/beanloft/beanloft/naming/GlobalName" := (f207.keep (Keep.of_wr W209))
  have f214 : Fld Z h209 g "com/example/beanloft/beanloft/naming/GlobalName" "beanName" "Ljava/lang/String;" .null := (((((((((((P3_.ext E102).ext E110).ext E119).ext E129).keep Kq140 nin0).ext E147).keep Kq163 nin0).ext E173).keep Kq190 nin0).other W203 (Or.inr (slot_ne (Or.inr (wd104 hw)) (Or.inr (wd100 hw)) (by decide) (t := (.object "java/lang/String")) (t' := (.object "java/lang/String")) (by decide) (by decide)))).other W209 (Or.inr (slot_ne (Or.inr (wd104 hw)) (Or.inr (wd102 hw)) (by decide) (t := (.object "java/lang/String")) (t' := (.object "java/lang/String")) (by decide) (by decide))))
  obtain ⟨T215, h215, X215, e215, W215, st215⟩ := putF X209 hx hZ hown (host := "") (Or.inl (wd103 hw)) Via.refl e209 f214 f213 (Or.inr ⟨(wd104 hw), rfl, hnm⟩) (wd31 hw) (ty := (.object "java/lang/String")) (by decide) rfl rfl (g := (mkF mi 63 #[.val (.ref g), .val .null, .val (.ref m), .val (.ref b), .val (.ref v)] [(.ref b), (.ref g)])) rfl rfl (hb hby d_prog_9_method_1_code_63)
  have N215 := Fr.snoc X215 N209 g_g
  have c216 := CHr.keep (Keep.of_wr W215) (sfS (Safe.exa hZ.alike f213 (by decide) (by decide)) sf0) C211.1
  have C217 := CHr.trans C211 c216
  have f218 : Fld Z h215 g "com/example/beanloft/beanloft/naming/GlobalName" "beanName" "Ljava/lang/String;" (.ref b) := f214.same W215
  have f219 : Exa Z h215 g "com/example/beanloft/beanloft/naming/GlobalName" := (f213.keep (Keep.of_wr W215))
  have f220 : Fld Z h215 g "com/example/beanloft/beanloft/naming/GlobalName" "viewName" "Ljava/lang/String;" .null := ((((((((((((P4_.ext E102).ext E110).ext E119).ext E129).keep Kq140 nin0).ext E147).keep Kq163 nin0).ext E173).keep Kq190 nin0).other W203 (Or.inr (slot_ne (Or.inr (wd106 hw)) (Or.inr (wd100 hw)) (by decide) (t := (.object "java/lang/String")) (t' := (.object "java/lang/String")) (by decide) (by decide)))).other W209 (Or.inr (slot_ne (Or.inr (wd106 hw)) (Or.inr (wd102 hw)) (by decide) (t := (.object "java/lang/String")) (t' := (.object "java/lang/String")) (by decide) (by decide)))).other W215 (Or.inr (slot_ne (Or.inr (wd106 hw)) (Or.inr (wd104 hw)) (by decide) (t := (.object "java/lang/String")) (t' := (.object "java/lang/String")) (by decide) (by decide))))
  obtain ⟨T221, h221, X221, e221, W221, st221⟩ := putF X215 hx hZ hown (host := "") (Or.inl (wd105 hw)) Via.refl e215 f220 f219 (Or.inr ⟨(wd106 hw), rfl, hnm⟩) (wd31 hw) (ty := (.object "java/lang/String")) (by decide) rfl rfl (g := (mkF mi 69 #[.val (.ref g), .val .null, .val (.ref m), .val (.ref b), .val (.ref v)] [(.ref v), (.ref g)])) rfl rfl (hb hby d_prog_9_method_1_code_69)
  have N221 := Fr.snoc X221 N215 g_g
  have c222 := CHr.keep (Keep.of_wr W221) (sfS (Safe.exa hZ.alike f219 (by decide) (by decide)) sf0) C217.1
  have C223 := CHr.trans C217 c222
  have f224 : Fld Z h221 g "com/example/beanloft/beanloft/naming/GlobalName" "viewName" "Ljava/lang/String;" (.ref v) := f220.same W221
  have f225 : Exa Z h221 g "com/example/beanloft/beanloft/naming/GlobalName" := (f219.keep (Keep.of_wr W221))
  have f226 : Fld Z h221 g "com/example/beanloft/beanloft/naming/GlobalName" "appName" "Ljava/lang/String;" .null := (((f206.other W209 (Or.inr (slot_ne (Or.inr (wd100 hw)) (Or.inr (wd102 hw)) (by decide) (t := (.object "java/lang/String")) (t' := (.object "java/lang/String")) (by decide) (by decide)))).other W215 (Or.inr (slot_ne (Or.inr (wd100 hw)) (Or.inr (wd104 hw)) (by decide) (t := (.object "java/lang/String")) (t' := (.object "java/lang/String")) (by decide) (by decide)))).other W221 (Or.inr (slot_ne (Or.inr (wd100 hw)) (Or.inr (wd106 hw)) (by decide) (t := (.object "java/lang/String")) (t' := (.object "java/lang/String")) (by decide) (by decide))))
  have f227 : Fld Z h221 g "com/example/beanloft/beanloft/naming/GlobalName" "moduleName" "Ljava/lang/String;" (.ref m) := ((f212.other W215 (Or.inr (slot_ne (Or.inr (wd102 hw)) (Or.inr (wd104 hw)) (by decide) (t := (.object "java/lang/String")) (t' := (.object "java/lang/String")) (by decide) (by decide)))).other W221 (Or.inr (slot_ne (Or.inr (wd102 hw)) (Or.inr (wd106 hw)) (by decide) (t := (.object "java/lang/String")) (t' := (.object "java/lang/String")) (by decide) (by decide))))
  have f228 : Fld Z h221 g "com/example/beanloft/beanloft/naming/GlobalName" "beanName" "Ljava/lang/String;" (.ref b) := (f218.other W221 (Or.inr (slot_ne (Or.inr (wd104 hw)) (Or.inr (wd106 hw)) (by decide) (t := (.object "java/lang/String")) (t' := (.object "java/lang/String")) (by decide) (by decide))))
  obtain ⟨fs, hr, hrun, hended, hWe⟩ := X221.leaveW hS (show _ ≤ T221.heap.size by rw [e221]; exact (Nat.le_trans hk (Nat.le_trans (Nat.le_trans (Nat.le_trans (Keep.of_wr W203).1 (Keep.of_wr W209).1) (Keep.of_wr W215).1) (Keep.of_wr W221).1))) (v := none) (fun _ => rfl)
  refine ⟨_, _, pre191 _ ?_, hrun, hended, _, _, rfl, ?_, ?_, hWe.1, hWe.2.1, hWe.2.2.1, hWe.2.2.2.mono (by decide) (by decide)⟩
  · show Steps pg.tables ev below (T173.setTop (mkF mi 48 #[.val (.ref g), .val .null, .val (.ref m), .val (.ref b), .val (.ref v)] [(.ref b), (.ref m), (.ref v), (.ref a173)])) _
    refine st190.trans ?_
    show Steps pg.tables ev below (T190.setTop (mkF mi 51 #[.val (.ref g), .val .null, .val (.ref m), .val (.ref b), .val (.ref v)] [])) _
    refine XS.aloadN X190.here hx rfl (hb hby d_prog_9_method_1_code_51) rfl rfl ?_
    refine XS.aloadN X190.here hx rfl (hb hby d_prog_9_method_1_code_52) rfl rfl ?_
    show Steps pg.tables ev below (T190.setTop (mkF mi 53 #[.val (.ref g), .val .null, .val (.ref m), .val (.ref b), .val (.ref v)] [.null, (.ref g)])) _
    refine st203 _ ?_
    show Steps pg.tables ev below (T203.setTop (mkF mi 56 #[.val (.ref g), .val .null, .val (.ref m), .val (.ref b), .val (.ref v)] [])) _
    refine XS.aloadN X203.here hx rfl (hb hby d_prog_9_method_1_code_56) rfl rfl ?_
    refine XS.aloadN X203.here hx rfl (hb hby d_prog_9_method_1_code_57) rfl rfl ?_
    show Steps pg.tables ev below (T203.setTop (mkF mi 58 #[.val (.ref g), .val .null, .val (.ref m), .val (.ref b), .val (.ref v)] [(.ref m), (.ref g)])) _
    refine st209 _ ?_
    show Steps pg.tables ev below (T209.setTop (mkF mi 61 #[.val (.ref g), .val .null, .val (.ref m), .val (.ref b), .val (.ref v)] [])) _
    refine XS.aloadN X209.here hx rfl (hb hby d_prog_9_method_1_code_61) rfl rfl ?_
    refine XS.aloadN X209.here hx rfl (hb hby d_prog_9_method_1_code_62) rfl rfl ?_
    show Steps pg.tables ev below (T209.setTop (mkF mi 63 #[.val (.ref g), .val .null, .val (.ref m), .val (.ref b), .val (.ref v)] [(.ref b), (.ref g)])) _
    refine st215 _ ?_
    show Steps pg.tables ev below (T215.setTop (mkF mi 66 #[.val (.ref g), .val .null, .val (.ref m), .val (.ref b), .val (.ref v)] [])) _
    refine XS.aloadN X215.here hx rfl (hb hby d_prog_9_method_1_code_66) rfl rfl ?_
    refine XS.aload X215.here hx rfl (hb hby d_prog_9_method_1_code_67) rfl rfl ?_
    show Steps pg.tables ev below (T215.setTop (mkF mi 69 #[.val (.ref g), .val .null, .val (.ref m), .val (.ref b), .val (.ref v)] [(.ref v), (.ref g)])) _
    refine st221 _ ?_
    show Steps pg.tables ev below (T221.setTop (mkF mi 72 #[.val (.ref g), .val .null, .val (.ref m), .val (.ref b), .val (.ref v)] [])) _
    exact X221.returnOut hx Bd.returns (hb hby d_prog_9_method_1_code_72) hr
  · show Q_gin0111 Z g m tm cm0 b tb cb0 v tv cv0 zc hE n0 _ T221.heap _
    rw [e221]
    exact ⟨rfl, N221, ((((((((((((((Keep.refl hE [g]).ext E102).ext E110).ext E119).ext E129).trans Kq140 all0).ext E147).trans Kq163 all0).ext E173).trans Kq190 all0).trans (Keep.of_wr W203) (allS (Or.inl (List.mem_of_getElem? (i := 0) rfl)) all0)).trans (Keep.of_wr W209) (allS (Or.inl (List.mem_of_getElem? (i := 0) rfl)) all0)).trans (Keep.of_wr W215) (allS (Or.inl (List.mem_of_getElem? (i := 0) rfl)) all0)).trans (Keep.of_wr W221) (allS (Or.inl (List.mem_of_getElem? (i := 0) rfl)) all0)), f225, f226, f227, f228, f224⟩
  · show CHr Z ELs sb.vm sb.heap T221.vm T221.heap
    rw [hh, e221]
    exact CHr.trans C223 (CHv.at X221 hZ hEL C223.1)
theorem ef_gin1110 (mi : MethodId) (g : Addr) (a : Addr) (m : Addr) (b : Addr) : entryFrame mi #[(.ref g), (.ref a), (.ref m), (.ref b), .null] 5 = mkF mi 0 #[.val (.ref g), .val (.ref a), .val (.ref m), .val (.ref b), .val .null] [] := by first | (simp [entryFrame, mkF, argsToLocals, Value.category]; done) | rfl
def Q_gin1110 (Z : State) (g : Addr) (a : Addr) (ta : Addr) (ca0 : Int32) (m : Addr) (tm : Addr) (cm0 : Int32) (b : Addr) (tb : Addr) (cb0 : Int32) (zc : Int32) (hE : Heap) (n0 : Nat) (vv : Option Value) (hh : Heap) (LL : List Loc) : Prop := (vv = none) ∧ (Fr n0 LL) ∧ (Keep hE hh [g]) ∧ (Exa Z hh g "com/example/beanloft/beanloft/naming/GlobalName") ∧ (Fld Z hh g "com/example/beanloft/beanloft/naming/GlobalName" "appName" "Ljava/lang/String;" (.ref a)) ∧ (Fld Z hh g "com/example/beanloft/beanloft/naming/GlobalName" "moduleName" "Ljava/lang/String;" (.ref m)) ∧ (Fld Z hh g "com/example/beanloft/beanloft/naming/GlobalName" "beanName" "Ljava/lang/String;" (.ref b)) ∧ (Fld Z hh g "com/example/beanloft/beanloft/naming/GlobalName" "viewName" "Ljava/lang/String;" .null)
set_option maxRecDepth 65536 in
set_option maxHeartbeats 40000000 in
theorem rm_gin1110 (la : Launch) (Z : State) (a0 : Array Value) (hw : ∀ d ∈ tables_1, d.before a0 Z = true) (ws : List Jvm.Cond) (g : Addr) (a : Addr) (ta : Addr) (ca0 : Int32) (m : Addr) (tm : Addr) (cm0 : Int32) (b : Addr) (tb : Addr) (cb0 : Int32) (zc : Int32) (hE : Heap) (n0 : Nat) (O : Old Z n0 hE) (P0_ : Exa Z hE g "com/example/beanloft/beanloft/naming/GlobalName") (P1_ : Fld Z hE g "com/example/beanloft/beanloft/naming/GlobalName" "appName" "Ljava/lang/String;" .null) (P2_ : Fld Z hE g "com/example/beanloft/beanloft/naming/GlobalName" "moduleName" "Ljava/lang/String;" .null) (P3_ : Fld Z hE g "com/example/beanloft/beanloft/naming/GlobalName" "beanName" "Ljava/lang/String;" .null) (P4_ : Fld Z hE g "com/example/beanloft/beanloft/naming/GlobalName" "viewName" "Ljava/lang/String;" .null) (P5_ : LStr Z hE a ta ([ca0] : List Int32)) (P6_ : LStr Z hE m tm ([cm0] : List Int32)) (P7_ : LStr Z hE b tb ([cb0] : List Int32)) (D0_ : Sta Z Z.heap "java/lang/String" "COMPACT_STRINGS" "Z" (.int zc)) (g_g : n0 ≤ g) (ne_a_g : a ≠ g) (ne_ta_g : ta ≠ g) (ne_m_g : m ≠ g) (ne_tm_g : tm ≠ g) (ne_b_g : b ≠ g) (ne_tb_g : tb ≠ g) (h47_ca0 : ¬ ((ca0.toInt8.toInt32) = (47 : Int32))) (h33_ca0 : ¬ ((ca0.toInt8.toInt32) = (33 : Int32))) (h47_cm0 : ¬ ((cm0.toInt8.toInt32) = (47 : Int32))) (h33_cm0 : ¬ ((cm0.toInt8.toInt32) = (33 : Int32))) (h47_cb0 : ¬ ((cb0.toInt8.toInt32) = (47 : Int32))) (h33_cb0 : ¬ ((cb0.toInt8.toInt32) = (33 : Int32))) (hzc : ¬ (zc = (0 : Int32))) :
    MetFree la mn17 (head1 (Jvm.Cond.code mn17 prog_9_method_1_code 5 none :: ws) ({ frames := 5, cells := 16, slots := 292, locals := 77 } : Room)) (fun aa UU => aa = #[(.ref g), (.ref a), (.ref m), (.ref b), .null] ∧ Z.Warmed39 UU.vm ∧ UU.heap = hE ∧ CHv Z ELs UU.vm hE) (fun _ _ _ _ _ => True) (fun _ UU oo UV => ∃ vv LL, oo = .returned vv ∧ Q_gin1110 Z g a ta ca0 m tm cm0 b tb cb0 zc hE n0 vv UV.heap LL ∧ CHr Z ELs UU.vm UU.heap UV.vm UV.heap ∧ ReturnedEndW UU oo UV LL ({ frames := 5, cells := 16, slots := 292, locals := 77 } : Room).cells ({ frames := 5, cells := 16, slots := 292, locals := 77 } : Room).slots) := by
  refine MetFree.of_bodySF (plainFor_of_name pn_com_example_beanloft_beanloft_naming_GlobalName) hisR ?_
  intro pg ev sb mi gs below me cd s₁ Bd hml0 hPt hKt
  obtain ⟨rfl, hZ, hh, hH⟩ := hPt
  have hx := Bd.exec
  have hby := Bd.bytes
  have hml : cd.maxLocals = 5 := hml0
  have hown : sb.vm.findClass "com/example/beanloft/beanloft/naming/GlobalName" = some mi.cls := findClass_of_methodNamed Bd.named
  have hnm := (name_of_methodNamed Bd.named Bd.method).1
  have X0 : Stand pg la ev ({ frames := 5, cells := 16, slots := 292, locals := 77 } : Room) (sb.setVm sb.vm) mi #[(.ref g), (.ref a), (.ref m), (.ref b), .null] below me cd s₁ [] 0 0 := Stand.of_body Bd
  have eE : s₁.heap = hE := by rw [← hh, Bd.state]; rfl
  have N0 := Fr.nil n0
  have pre0 : ∀ tt, Steps pg.tables ev below (s₁.setTop (mkF mi 0 #[.val (.ref g), .val (.ref a), .val (.ref m), .val (.ref b), .val .null] [])) tt → Steps pg.tables ev below (s₁.setTop (entryFrame mi #[(.ref g), (.ref a), (.ref m), (.ref b), .null] 5)) tt := fun tt kk => castTop (ef_gin1110 mi g a m b) kk
  have hS : sb.Since sb.vm 0 := (State.WarmedH.refl sb).since 0
  have hk : 0 ≤ hE.size := Nat.zero_le _
  have hEL := own_EW hw
  have C0 := CHr.refl hH
  obtain ⟨v101, _, ⟨T101, L101, k101, n101⟩, -, X101, ⟨Lc101, hQ101, l101, y101, z101⟩, st101⟩ := X0.specialBack hx (y := mn5) rfl hown (mvT hZ (wd36 hw)) (mvT hZ (wd37 hw)) (mvT hZ (wd40 hw)) (by decide) (backOf (W := 0) (rm_rec la Z a0 hw [] g hE n0 O) hZ (wd40 hw) (wd39 hw) (by decide) (by decide)) (g := (mkF mi 1 #[.val (.ref g), .val (.ref a), .val (.ref m), .val (.ref b), .val .null] [(.ref g)])) rfl (by rw [hml]; rfl) (Steps.refl _) (a := g) (argsL := []) (rest := []) (lenOf pd_10 rfl) rfl (by show 2 * 0 + _ ≤ _; exact Nat.le_of_eq rfl) (hb hby d_prog_9_method_1_code_1) (fun _ _ => ⟨rfl, eE, (by decide : 0 + 0 ≤ _), (by decide : 0 + 0 ≤ _)⟩)
  dsimp only [Pt.U, Pt.locs, Pt.cells, Pt.slots] at X101 l101 y101 z101 st101 hQ101
  subst l101 y101 z101
  obtain ⟨rfl, Nq101, ek101⟩ := hQ101
  have N101 := Fr.app N0 Nq101
  have pre103 : ∀ tt, Steps pg.tables ev below (T101.setTop (mkF mi 5 #[.val (.ref g), .val (.ref a), .val (.ref m), .val (.ref b), .val .null] [(.ref m)])) tt → Steps pg.tables ev below (s₁.setTop (entryFrame mi #[(.ref g), (.ref a), (.ref m), (.ref b), .null] 5)) tt := fun tt kk => pre0 _ (by
    show Steps pg.tables ev below (s₁.setTop (mkF mi 0 #[.val (.ref g), .val (.ref a), .val (.ref m), .val (.ref b), .val .null] [])) _
    refine XS.aloadN X0.here hx rfl (hb hby d_prog_9_method_1_code_0) rfl rfl ?_
    show Steps pg.tables ev below (s₁.setTop (mkF mi 1 #[.val (.ref g), .val (.ref a), .val (.ref m), .val (.ref b), .val .null] [(.ref g)])) _
    refine st101.trans ?_
    show Steps pg.tables ev below (T101.setTop (mkF mi 4 #[.val (.ref g), .val (.ref a), .val (.ref m), .val (.ref b), .val .null] [])) _
    refine XS.aloadN X101.here hx rfl (hb hby d_prog_9_method_1_code_4) rfl rfl ?_
    exact kk)
  obtain ⟨a102, T102, h102, k102, X102, e102, E102, hs104, hk105, hZ, hown, c102, lt106, st102⟩ := ldcOH (s := sb.setVm sb.vm) X101 hx hZ hown (wd42 hw) (own_wS hw) ek101 ((State.WarmedH.refl (sb.setVm sb.vm)).since 0) (Nat.zero_le _) hEL C0.1 (g := (mkF mi 5 #[.val (.ref g), .val (.ref a), .val (.ref m), .val (.ref b), .val .null] [(.ref m)])) rfl (hb hby d_prog_9_method_1_code_5) (n := 40) (by decide) (by decide) (by decide) (by decide)
  have X102 := own_restand X102
  have hS := hS.trans (⟨hs104.1, hs104.2.mono hk105⟩ : (sb.setVm sb.vm).Since T102.vm h102.size) (Nat.le_trans hk E102.1)
  have hk : h102.size ≤ h102.size := Nat.le_refl _
  have C107 := CHr.trans C0 c102
  have O108 : Old Z n0 h102 := (O.ext E102)
  obtain ⟨v109, _, ⟨T109, L109, k109, n109⟩, -, X109, ⟨Lc109, hQ109, l109, y109, z109⟩, st109⟩ := Jvm.LawKit.callS X102 hx (y := mn6) hown (mvT hZ (wd45 hw)) (mvT hZ (wd46 hw)) (mvT hZ (wd47 hw)) (mvT hZ (wd48 hw)) (by decide) (backOf (W := 0) (rm_rnn2 la Z a0 hw [] m a102 h102 n0 O108) hZ (wd48 hw) (wd47 hw) (by decide) (by decide)) (g := (mkF mi 7 #[.val (.ref g), .val (.ref a), .val (.ref m), .val (.ref b), .val .null] [(.ref a102), (.ref m)])) rfl (by rw [hml]; rfl) (argsL := [(.ref m), (.ref a102)]) (rest := []) (lenOf pd_11 rfl) rfl (by show 2 * 0 + _ ≤ _; exact Nat.le_of_eq rfl) (hb hby d_prog_9_method_1_code_7) (fun _ _ => ⟨rfl, e102, (by decide : 2 + 0 ≤ _), (by decide : 44 + 0 ≤ _)⟩)
  dsimp only [Pt.U, Pt.locs, Pt.cells, Pt.slots] at X109 l109 y109 z109 st109 hQ109
  subst l109 y109 z109
  obtain ⟨rfl, Nq109, ek109⟩ := hQ109
  have N109 := Fr.app N101 Nq109
  have pre111 : ∀ tt, Steps pg.tables ev below (T109.setTop (mkF mi 12 #[.val (.ref g), .val (.ref a), .val (.ref m), .val (.ref b), .val .null] [(.ref b)])) tt → Steps pg.tables ev below (s₁.setTop (entryFrame mi #[(.ref g), (.ref a), (.ref m), (.ref b), .null] 5)) tt := fun tt kk => pre103 _ (by
    show Steps pg.tables ev below (T101.setTop (mkF mi 5 #[.val (.ref g), .val (.ref a), .val (.ref m), .val (.ref b), .val .null] [(.ref m)])) _
    refine st102 _ ?_
    show Steps pg.tables ev below (T102.setTop (mkF mi 7 #[.val (.ref g), .val (.ref a), .val (.ref m), .val (.ref b), .val .null] [(.ref a102), (.ref m)])) _
    refine st109 _ ?_
    show Steps pg.tables ev below (T109.setTop (mkF mi 10 #[.val (.ref g), .val (.ref a), .val (.ref m), .val (.ref b), .val .null] [(.ref m)])) _
    refine XS.pop X109.here hx rfl (hb hby d_prog_9_method_1_code_10) rfl rfl ?_
    refine XS.aloadN X109.here hx rfl (hb hby d_prog_9_method_1_code_11) rfl rfl ?_
    exact kk)
  obtain ⟨a110, T110, h110, k110, X110, e110, E110, hs112, hk113, hZ, hown, c110, lt114, st110⟩ := ldcOH (s := sb.setVm T102.vm) X109 hx hZ hown (wd49 hw) (own_wS hw) ek109 ((State.WarmedH.refl (sb.setVm T102.vm)).since 0) (Nat.zero_le _) hEL C107.1 (g := (mkF mi 12 #[.val (.ref g), .val (.ref a), .val (.ref m), .val (.ref b), .val .null] [(.ref b)])) rfl (hb hby d_prog_9_method_1_code_12) (n := 32) (by decide) (by decide) (by decide) (by decide)
  have X110 := own_restand X110
  have hS := hS.trans (⟨hs112.1, hs112.2.mono hk113⟩ : (sb.setVm T102.vm).Since T110.vm h110.size) (Nat.le_trans hk E110.1)
  have hk : h110.size ≤ h110.size := Nat.le_refl _
  have lt115 := Lit.stays (s := sb) lt106 hs112.1
  have C116 := CHr.trans C107 c110
  have O117 : Old Z n0 h110 := (O108.ext E110)
  obtain ⟨v118, _, ⟨T118, L118, k118, n118⟩, -, X118, ⟨Lc118, hQ118, l118, y118, z118⟩, st118⟩ := Jvm.LawKit.callS X110 hx (y := mn6) hown (mvT hZ (wd45 hw)) (mvT hZ (wd46 hw)) (mvT hZ (wd47 hw)) (mvT hZ (wd48 hw)) (by decide) (backOf (W := 0) (rm_rnn2 la Z a0 hw [] b a110 h110 n0 O117) hZ (wd48 hw) (wd47 hw) (by decide) (by decide)) (g := (mkF mi 14 #[.val (.ref g), .val (.ref a), .val (.ref m), .val (.ref b), .val .null] [(.ref a110), (.ref b)])) rfl (by rw [hml]; rfl) (argsL := [(.ref b), (.ref a110)]) (rest := []) (lenOf pd_11 rfl) rfl (by show 2 * 0 + _ ≤ _; exact Nat.le_of_eq rfl) (hb hby d_prog_9_method_1_code_14) (fun _ _ => ⟨rfl, e110, (by decide : 4 + 0 ≤ _), (by decide : 80 + 0 ≤ _)⟩)
  dsimp only [Pt.U, Pt.locs, Pt.cells, Pt.slots] at X118 l118 y118 z118 st118 hQ118
  subst l118 y118 z118
  obtain ⟨rfl, Nq118, ek118⟩ := hQ118
  have N118 := Fr.app N109 Nq118
  have pre120 : ∀ tt, Steps pg.tables ev below (T118.setTop (mkF mi 18 #[.val (.ref g), .val (.ref a), .val (.ref m), .val (.ref b), .val .null] [])) tt → Steps pg.tables ev below (s₁.setTop (entryFrame mi #[(.ref g), (.ref a), (.ref m), (.ref b), .null] 5)) tt := fun tt kk => pre111 _ (by
    show Steps pg.tables ev below (T109.setTop (mkF mi 12 #[.val (.ref g), .val (.ref a), .val (.ref m), .val (.ref b), .val .null] [(.ref b)])) _
    refine st110 _ ?_
    show Steps pg.tables ev below (T110.setTop (mkF mi 14 #[.val (.ref g), .val (.ref a), .val (.ref m), .val (.ref b), .val .null] [(.ref a110), (.ref b)])) _
    refine st118 _ ?_
    show Steps pg.tables ev below (T118.setTop (mkF mi 17 #[.val (.ref g), .val (.ref a), .val (.ref m), .val (.ref b), .val .null] [(.ref b)])) _
    refine XS.pop X118.here hx rfl (hb hby d_prog_9_method_1_code_17) rfl rfl ?_
    exact kk)
  obtain ⟨a119, T119, h119, k119, X119, e119, E119, hs121, hk122, hZ, hown, c119, lt123, st119⟩ := ldcOH (s := sb.setVm T110.vm) X118 hx hZ hown (wd50 hw) (own_wS hw) ek118 ((State.WarmedH.refl (sb.setVm T110.vm)).since 0) (Nat.zero_le _) hEL C116.1 (g := (mkF mi 18 #[.val (.ref g), .val (.ref a), .val (.ref m), .val (.ref b), .val .null] [])) rfl (hb hby d_prog_9_method_1_code_18) (n := 64) (by decide) (by decide) (by decide) (by decide)
  have X119 := own_restand X119
  have hS := hS.trans (⟨hs121.1, hs121.2.mono hk122⟩ : (sb.setVm T110.vm).Since T119.vm h119.size) (Nat.le_trans hk E119.1)
  have hk : h119.size ≤ h119.size := Nat.le_refl _
  have lt124 := Lit.stays (s := sb) lt115 hs121.1
  have lt125 := Lit.stays (s := sb) lt114 hs121.1
  have C126 := CHr.trans C116 c119
  have O127 : Old Z n0 h119 := (O117.ext E119)
  have f128 : LStr Z h119 a ta ([ca0] : List Int32) := (((P5_.ext E102).ext E110).ext E119)
  have pre130 : ∀ tt, Steps pg.tables ev below (T119.setTop (mkF mi 23 #[.val (.ref g), .val (.ref a), .val (.ref m), .val (.ref b), .val .null] [(.ref b), (.ref m), (.ref a), (.ref a119)])) tt → Steps pg.tables ev below (s₁.setTop (entryFrame mi #[(.ref g), (.ref a), (.ref m), (.ref b), .null] 5)) tt := fun tt kk => pre120 _ (by
    show Steps pg.tables ev below (T118.setTop (mkF mi 18 #[.val (.ref g), .val (.ref a), .val (.ref m), .val (.ref b), .val .null] [])) _
    refine st119 _ ?_
    show Steps pg.tables ev below (T119.setTop (mkF mi 20 #[.val (.ref g), .val (.ref a), .val (.ref m), .val (.ref b), .val .null] [(.ref a119)])) _
    refine XS.aloadN X119.here hx rfl (hb hby d_prog_9_method_1_code_20) rfl rfl ?_
    refine XS.aloadN X119.here hx rfl (hb hby d_prog_9_method_1_code_21) rfl rfl ?_
    refine XS.aloadN X119.here hx rfl (hb hby d_prog_9_method_1_code_22) rfl rfl ?_
    exact kk)
  obtain ⟨v129, _, ⟨T129, L129, k129, n129⟩, -, X129, s129, gr129, ⟨Lc129, hQ129, l129, y129, z129, c129, ly0_129, lu0_129, ly1_129, lu1_129, ll0_129, ls0_129, ll1_129, ls1_129⟩, st129⟩ := callSS X119 hx (y := mn16) hown (mvT hZ (wd51 hw)) (mvT hZ (wd52 hw)) (mvT hZ (wd32 hw)) (mvT hZ (wd53 hw)) (by decide) (own_backSL (W := 0) (LP := fun vm => True) (LQ := fun vm h => ∃ ly0 lu0 ly1 lu1 : Addr, Lit (Z.setVm vm) "com/example/beanloft/beanloft/naming/GlobalName" 125 ly0 ∧ LStr Z h ly0 lu0 ([(47 : Int32)] : List Int32) ∧ Lit (Z.setVm vm) "com/example/beanloft/beanloft/naming/GlobalName" 131 ly1 ∧ LStr Z h ly1 lu1 ([(33 : Int32)] : List Int32)) (fun hW => trivial) (rm_seg1 la Z a0 hw [] a119 a m b ta ca0 zc h119 n0 O127 f128 D0_ (h47_ca0 : ¬ ((ca0.toInt8.toInt32) = (47 : Int32))) (h33_ca0 : ¬ ((ca0.toInt8.toInt32) = (33 : Int32))) (hzc : ¬ (zc = (0 : Int32)))) hZ (wd53 hw) (wd32 hw) (by decide) (by decide) hEL C126.1) (g := (mkF mi 23 #[.val (.ref g), .val (.ref a), .val (.ref m), .val (.ref b), .val .null] [(.ref b), (.ref m), (.ref a), (.ref a119)])) rfl (by rw [hml]; rfl) (argsL := [(.ref a119), (.ref a), (.ref m), (.ref b)]) (rest := []) (lenOf pd_12 rfl) rfl (by show 2 * 0 + _ ≤ _; exact Nat.le_of_eq rfl) (hb hby d_prog_9_method_1_code_23) (fun _ _ => ⟨rfl, e119, (by decide : 6 + 4 ≤ _), (by decide : 148 + 16 ≤ _)⟩)
  dsimp only [Pt.U, Pt.locs, Pt.cells, Pt.slots] at X129 s129 gr129 l129 y129 z129 c129 st129 hQ129
  subst l129 y129 z129
  dsimp only [Pt.U] at ll0_129 ls0_129 ll1_129 ls1_129
  have lt131 := Lit.stays (s := sb) lt124 s129.1
  have lt132 := Lit.stays (s := sb) lt125 s129.1
  have lt133 := Lit.stays (s := sb) lt123 s129.1
  obtain ⟨X129, hS, hZ, hown⟩ := rebS hS (show _ ≤ T119.heap.size by rw [e119]; exact hk) X129 s129 gr129 hZ hown
  have hk : T129.heap.size ≤ T129.heap.size := Nat.le_refl _
  obtain ⟨rfl, Nq129, Kq129⟩ := hQ129
  have N129 := Fr.app N118 Nq129
  have C134 := CHr.trans C126 c129
  have pre136 : ∀ tt, Steps pg.tables ev below (T129.setTop (mkF mi 26 #[.val (.ref g), .val (.ref a), .val (.ref m), .val (.ref b), .val .null] [])) tt → Steps pg.tables ev below (s₁.setTop (entryFrame mi #[(.ref g), (.ref a), (.ref m), (.ref b), .null] 5)) tt := fun tt kk => pre130 _ (by
    show Steps pg.tables ev below (T119.setTop (mkF mi 23 #[.val (.ref g), .val (.ref a), .val (.ref m), .val (.ref b), .val .null] [(.ref b), (.ref m), (.ref a), (.ref a119)])) _
    refine st129.trans ?_
    exact kk)
  obtain ⟨a135, T135, h135, k135, X135, e135, E135, hs137, hk138, hZ, hown, c135, lt139, st135⟩ := ldcOH (s := sb.setVm T129.vm) X129 hx hZ hown (wd54 hw) (own_wS hw) rfl ((State.WarmedH.refl (sb.setVm T129.vm)).since 0) (Nat.zero_le _) hEL C134.1 (g := (mkF mi 26 #[.val (.ref g), .val (.ref a), .val (.ref m), .val (.ref b), .val .null] [])) rfl (hb hby d_prog_9_method_1_code_26) (n := 44) (by decide) (by decide) (by decide) (by decide)
  have X135 := own_restand X135
  have hS := hS.trans (⟨hs137.1, hs137.2.mono hk138⟩ : (sb.setVm T129.vm).Since T135.vm h135.size) (Nat.le_trans hk E135.1)
  have hk : h135.size ≤ h135.size := Nat.le_refl _
  have lt140 := Lit.stays (s := sb) lt131 hs137.1
  have lt141 := Lit.stays (s := sb) lt132 hs137.1
  have lt142 := Lit.stays (s := sb) lt133 hs137.1
  have lt143 := Lit.stays (s := sb) ll0_129 hs137.1
  have lt144 := Lit.stays (s := sb) ll1_129 hs137.1
  have C145 := CHr.trans C134 c135
  have O146 : Old Z n0 h135 := ((O127.keep Kq129 all0).ext E135)
  have f147 : LStr Z h135 m tm ([cm0] : List Int32) := (((((P6_.ext E102).ext E110).ext E119).keep Kq129 nin0 nin0).ext E135)
  have f148 : LStr Z h135 ly0_129 lu0_129 ([(47 : Int32)] : List Int32) := (ls0_129.ext E135)
  have f149 : LStr Z h135 ly1_129 lu1_129 ([(33 : Int32)] : List Int32) := (ls1_129.ext E135)
  have pre151 : ∀ tt, Steps pg.tables ev below (T135.setTop (mkF mi 31 #[.val (.ref g), .val (.ref a), .val (.ref m), .val (.ref b), .val .null] [(.ref b), (.ref m), (.ref m), (.ref a135)])) tt → Steps pg.tables ev below (s₁.setTop (entryFrame mi #[(.ref g), (.ref a), (.ref m), (.ref b), .null] 5)) tt := fun tt kk => pre136 _ (by
    show Steps pg.tables ev below (T129.setTop (mkF mi 26 #[.val (.ref g), .val (.ref a), .val (.ref m), .val (.ref b), .val .null] [])) _
    refine st135 _ ?_
    show Steps pg.tables ev below (T135.setTop (mkF mi 28 #[.val (.ref g), .val (.ref a), .val (.ref m), .val (.ref b), .val .null] [(.ref a135)])) _
    refine XS.aloadN X135.here hx rfl (hb hby d_prog_9_method_1_code_28) rfl rfl ?_
    refine XS.aloadN X135.here hx rfl (hb hby d_prog_9_method_1_code_29) rfl rfl ?_
    refine XS.aloadN X135.here hx rfl (hb hby d_prog_9_method_1_code_30) rfl rfl ?_
    exact kk)
  obtain ⟨v150, _, ⟨T150, L150, k150, n150⟩, -, X150, s150, gr150, ⟨Lc150, hQ150, l150, y150, z150, c150, -⟩, st150⟩ := callSS X135 hx (y := mn16) hown (mvT hZ (wd51 hw)) (mvT hZ (wd52 hw)) (mvT hZ (wd32 hw)) (mvT hZ (wd53 hw)) (by decide) (own_backSL (W := 0) (LP := fun vm => Lit (Z.setVm vm) "com/example/beanloft/beanloft/naming/GlobalName" 125 ly0_129 ∧ Lit (Z.setVm vm) "com/example/beanloft/beanloft/naming/GlobalName" 131 ly1_129) (LQ := fun vm h => True) (fun hW => ⟨Lit.stays (s := sb) lt143 hW, Lit.stays (s := sb) lt144 hW⟩) (rm_seg1L la Z a0 hw [] a135 m m b tm ly0_129 lu0_129 ly1_129 lu1_129 cm0 zc h135 n0 O146 f147 f148 f149 D0_ (h47_cm0 : ¬ ((cm0.toInt8.toInt32) = (47 : Int32))) (h33_cm0 : ¬ ((cm0.toInt8.toInt32) = (33 : Int32))) (hzc : ¬ (zc = (0 : Int32)))) hZ (wd53 hw) (wd32 hw) (by decide) (by decide) hEL C145.1) (g := (mkF mi 31 #[.val (.ref g), .val (.ref a), .val (.ref m), .val (.ref b), .val .null] [(.ref b), (.ref m), (.ref m), (.ref a135)])) rfl (by rw [hml]; rfl) (argsL := [(.ref a135), (.ref m), (.ref m), (.ref b)]) (rest := []) (lenOf pd_12 rfl) rfl (by show 2 * 0 + _ ≤ _; exact Nat.le_of_eq rfl) (hb hby d_prog_9_method_1_code_31) (fun _ _ => ⟨rfl, e135, (by decide : 12 + 0 ≤ _), (by decide : 212 + 0 ≤ _)⟩)
  dsimp only [Pt.U, Pt.locs, Pt.cells, Pt.slots] at X150 s150 gr150 l150 y150 z150 c150 st150 hQ150
  subst l150 y150 z150
  have lt152 := Lit.stays (s := sb) lt140 s150.1
  have lt153 := Lit.stays (s := sb) lt141 s150.1
  have lt154 := Lit.stays (s := sb) lt142 s150.1
  have lt155 := Lit.stays (s := sb) lt143 s150.1
  have lt156 := Lit.stays (s := sb) lt144 s150.1
  have lt157 := Lit.stays (s := sb) lt139 s150.1
  obtain ⟨X150, hS, hZ, hown⟩ := rebS hS (show _ ≤ T135.heap.size by rw [e135]; exact hk) X150 s150 gr150 hZ hown
  have hk : T150.heap.size ≤ T150.heap.size := Nat.le_refl _
  obtain ⟨rfl, Nq150, Kq150⟩ := hQ150
  have N150 := Fr.app N129 Nq150
  have C158 := CHr.trans C145 c150
  have pre160 : ∀ tt, Steps pg.tables ev below (T150.setTop (mkF mi 34 #[.val (.ref g), .val (.ref a), .val (.ref m), .val (.ref b), .val .null] [])) tt → Steps pg.tables ev below (s₁.setTop (entryFrame mi #[(.ref g), (.ref a), (.ref m), (.ref b), .null] 5)) tt := fun tt kk => pre151 _ (by
    show Steps pg.tables ev below (T135.setTop (mkF mi 31 #[.val (.ref g), .val (.ref a), .val (.ref m), .val (.ref b), .val .null] [(.ref b), (.ref m), (.ref m), (.ref a135)])) _
    refine st150.trans ?_
    exact kk)
  obtain ⟨a159, T159, h159, k159, X159, e159, E159, hs161, hk162, hZ, hown, c159, lt163, st159⟩ := ldcOH (s := sb.setVm T150.vm) X150 hx hZ hown (wd97 hw) (own_wS hw) rfl ((State.WarmedH.refl (sb.setVm T150.vm)).since 0) (Nat.zero_le _) hEL C158.1 (g := (mkF mi 34 #[.val (.ref g), .val (.ref a), .val (.ref m), .val (.ref b), .val .null] [])) rfl (hb hby d_prog_9_method_1_code_34) (n := 36) (by decide) (by decide) (by decide) (by decide)
  have X159 := own_restand X159
  have hS := hS.trans (⟨hs161.1, hs161.2.mono hk162⟩ : (sb.setVm T150.vm).Since T159.vm h159.size) (Nat.le_trans hk E159.1)
  have hk : h159.size ≤ h159.size := Nat.le_refl _
  have lt164 := Lit.stays (s := sb) lt152 hs161.1
  have lt165 := Lit.stays (s := sb) lt153 hs161.1
  have lt166 := Lit.stays (s := sb) lt154 hs161.1
  have lt167 := Lit.stays (s := sb) lt155 hs161.1
  have lt168 := Lit.stays (s := sb) lt156 hs161.1
  have lt169 := Lit.stays (s := sb) lt157 hs161.1
  have C170 := CHr.trans C158 c159
  have O171 : Old Z n0 h159 := ((O146.keep Kq150 all0).ext E159)
  have f172 : LStr Z h159 b tb ([cb0] : List Int32) := (((((((P7_.ext E102).ext E110).ext E119).keep Kq129 nin0 nin0).ext E135).keep Kq150 nin0 nin0).ext E159)
  have f173 : LStr Z h159 ly0_129 lu0_129 ([(47 : Int32)] : List Int32) := ((f148.keep Kq150 nin0 nin0).ext E159)
  have f174 : LStr Z h159 ly1_129 lu1_129 ([(33 : Int32)] : List Int32) := ((f149.keep Kq150 nin0 nin0).ext E159)
  have pre176 : ∀ tt, Steps pg.tables ev below (T159.setTop (mkF mi 39 #[.val (.ref g), .val (.ref a), .val (.ref m), .val (.ref b), .val .null] [(.ref b), (.ref m), (.ref b), (.ref a159)])) tt → Steps pg.tables ev below (s₁.setTop (entryFrame mi #[(.ref g), (.ref a), (.ref m), (.ref b), .null] 5)) tt := fun tt kk => pre160 _ (by
    show Steps pg.tables ev below (T150.setTop (mkF mi 34 #[.val (.ref g), .val (.ref a), .val (.ref m), .val (.ref b), .val .null] [])) _
    refine st159 _ ?_
    show Steps pg.tables ev below (T159.setTop (mkF mi 36 #[.val (.ref g), .val (.ref a), .val (.ref m), .val (.ref b), .val .null] [(.ref a159)])) _
    refine XS.aloadN X159.here hx rfl (hb hby d_prog_9_method_1_code_36) rfl rfl ?_
    refine XS.aloadN X159.here hx rfl (hb hby d_prog_9_method_1_code_37) rfl rfl ?_
    refine XS.aloadN X159.here hx rfl (hb hby d_prog_9_method_1_code_38) rfl rfl ?_
    exact kk)
  obtain ⟨v175, _, ⟨T175, L175, k175, n175⟩, -, X175, s175, gr175, ⟨Lc175, hQ175, l175, y175, z175, c175, -⟩, st175⟩ := callSS X159 hx (y := mn16) hown (mvT hZ (wd51 hw)) (mvT hZ (wd52 hw)) (mvT hZ (wd32 hw)) (mvT hZ (wd53 hw)) (by decide) (own_backSL (W := 0) (LP := fun vm => Lit (Z.setVm vm) "com/example/beanloft/beanloft/naming/GlobalName" 125 ly0_129 ∧ Lit (Z.setVm vm) "com/example/beanloft/beanloft/naming/GlobalName" 131 ly1_129) (LQ := fun vm h => True) (fun hW => ⟨Lit.stays (s := sb) lt167 hW, Lit.stays (s := sb) lt168 hW⟩) (rm_seg1L la Z a0 hw [] a159 b m b tb ly0_129 lu0_129 ly1_129 lu1_129 cb0 zc h159 n0 O171 f172 f173 f174 D0_ (h47_cb0 : ¬ ((cb0.toInt8.toInt32) = (47 : Int32))) (h33_cb0 : ¬ ((cb0.toInt8.toInt32) = (33 : Int32))) (hzc : ¬ (zc = (0 : Int32)))) hZ (wd53 hw) (wd32 hw) (by decide) (by decide) hEL C170.1) (g := (mkF mi 39 #[.val (.ref g), .val (.ref a), .val (.ref m), .val (.ref b), .val .null] [(.ref b), (.ref m), (.ref b), (.ref a159)])) rfl (by rw [hml]; rfl) (argsL := [(.ref a159), (.ref b), (.ref m), (.ref b)]) (rest := []) (lenOf pd_12 rfl) rfl (by show 2 * 0 + _ ≤ _; exact Nat.le_of_eq rfl) (hb hby d_prog_9_method_1_code_39) (fun _ _ => ⟨rfl, e159, (by decide : 14 + 0 ≤ _), (by decide : 252 + 0 ≤ _)⟩)
  dsimp only [Pt.U, Pt.locs, Pt.cells, Pt.slots] at X175 s175 gr175 l175 y175 z175 c175 st175 hQ175
  subst l175 y175 z175
  have lt177 := Lit.stays (s := sb) lt164 s175.1
  have lt178 := Lit.stays (s := sb) lt165 s175.1
  have lt179 := Lit.stays (s := sb) lt166 s175.1
  have lt180 := Lit.stays (s := sb) lt167 s175.1
  have lt181 := Lit.stays (s := sb) lt168 s175.1
  have lt182 := Lit.stays (s := sb) lt169 s175.1
  have lt183 := Lit.stays (s := sb) lt163 s175.1
  obtain ⟨X175, hS, hZ, hown⟩ := rebS hS (show _ ≤ T159.heap.size by rw [e159]; exact hk) X175 s175 gr175 hZ hown
  have hk : T175.heap.size ≤ T175.heap.size := Nat.le_refl _
  obtain ⟨rfl, Nq175, Kq175⟩ := hQ175
  have N175 := Fr.app N150 Nq175
  have C184 := CHr.trans C170 c175
  have pre186 : ∀ tt, Steps pg.tables ev below (T175.setTop (mkF mi 42 #[.val (.ref g), .val (.ref a), .val (.ref m), .val (.ref b), .val .null] [])) tt → Steps pg.tables ev below (s₁.setTop (entryFrame mi #[(.ref g), (.ref a), (.ref m), (.ref b), .null] 5)) tt := fun tt kk => pre176 _ (by
    show Steps pg.tables ev below (T159.setTop (mkF mi 39 #[.val (.ref g), .val (.ref a), .val (.ref m), .val (.ref b), .val .null] [(.ref b), (.ref m), (.ref b), (.ref a159)])) _
    refine st175.trans ?_
    exact kk)
  obtain ⟨a185, T185, h185, k185, X185, e185, E185, hs187, hk188, hZ, hown, c185, lt189, st185⟩ := ldcOH (s := sb.setVm T175.vm) X175 hx hZ hown (wd98 hw) (own_wS hw) rfl ((State.WarmedH.refl (sb.setVm T175.vm)).since 0) (Nat.zero_le _) hEL C184.1 (g := (mkF mi 42 #[.val (.ref g), .val (.ref a), .val (.ref m), .val (.ref b), .val .null] [])) rfl (hb hby d_prog_9_method_1_code_42) (n := 36) (by decide) (by decide) (by decide) (by decide)
  have X185 := own_restand X185
  have hS := hS.trans (⟨hs187.1, hs187.2.mono hk188⟩ : (sb.setVm T175.vm).Since T185.vm h185.size) (Nat.le_trans hk E185.1)
  have hk : h185.size ≤ h185.size := Nat.le_refl _
  have lt190 := Lit.stays (s := sb) lt177 hs187.1
  have lt191 := Lit.stays (s := sb) lt178 hs187.1
  have lt192 := Lit.stays (s := sb) lt179 hs187.1
  have lt193 := Lit.stays (s := sb) lt180 hs187.1
  have lt194 := Lit.stays (s := sb) lt181 hs187.1
  have lt195 := Lit.stays (s := sb) lt182 hs187.1
  have lt196 := Lit.stays (s := sb) lt183 hs187.1
  have C197 := CHr.trans C184 c185
  have O198 : Old Z n0 h185 := ((O171.keep Kq175 all0).ext E185)
  obtain ⟨v199, _, ⟨T199, L199, k199, n199⟩, -, X199, ⟨Lc199, hQ199, l199, y199, z199⟩, st199⟩ := Jvm.LawKit.callS X185 hx (y := mn16) hown (mvT hZ (wd51 hw)) (mvT hZ (wd52 hw)) (mvT hZ (wd32 hw)) (mvT hZ (wd53 hw)) (by decide) (backOf (W := 0) (rm_segN la Z a0 hw [] a185 m b h185 n0 O198) hZ (wd53 hw) (wd32 hw) (by decide) (by decide)) (g := (mkF mi 48 #[.val (.ref g), .val (.ref a), .val (.ref m), .val (.ref b), .val .null] [(.ref b), (.ref m), .null, (.ref a185)])) rfl (by rw [hml]; rfl) (argsL := [(.ref a185), .null, (.ref m), (.ref b)]) (rest := []) (lenOf pd_12 rfl) rfl (by show 2 * 0 + _ ≤ _; exact Nat.le_of_eq rfl) (hb hby d_prog_9_method_1_code_48) (fun _ _ => ⟨rfl, e185, (by decide : 16 + 0 ≤ _), (by decide : 292 + 0 ≤ _)⟩)
  dsimp only [Pt.U, Pt.locs, Pt.cells, Pt.slots] at X199 l199 y199 z199 st199 hQ199
  subst l199 y199 z199
  obtain ⟨rfl, Nq199, ek199⟩ := hQ199
  have N199 := Fr.app N175 Nq199
  have f200 : Exa Z h185 g "com/example/beanloft/beanloft/naming/GlobalName" := (((((((((P0_.ext E102).ext E110).ext E119).keep Kq129).ext E135).keep Kq150).ext E159).keep Kq175).ext E185)
  have f201 : Fld Z h185 g "com/example/beanloft/beanloft/naming/GlobalName" "appName" "Ljava/lang/String;" .null := (((((((((P1_.ext E102).ext E110).ext E119).keep Kq129 nin0).ext E135).keep Kq150 nin0).ext E159).keep Kq175 nin0).ext E185)
  obtain ⟨T202, h202, X202, e202, W202, st202⟩ := putF X199 hx hZ hown (host := "") (Or.inl (wd99 hw)) Via.refl ek199 f201 f200 (Or.inr ⟨(wd100 hw), rfl, hnm⟩) (wd31 hw) (ty := (.object "java/lang/String")) (by decide) rfl rfl (g := (mkF mi 53 #[.val (.ref g), .val (.ref a), .val (.ref m), .val (.ref b), .val .null] [(.ref a), (.ref g)])) rfl rfl (hb hby d_prog_9_method_1_code_53)
  have N202 := Fr.snoc X202 N199 g_g
  have c203 := CHr.keep (Keep.of_wr W202) (sfS (Safe.exa hZ.alike f200 (by decide) (by decide)) sf0) C197.1
  have C204 := CHr.trans C197 c203
  have f205 : Fld Z h202 g "com/example/beanloft/beanloft/naming/GlobalName" "appName" "Ljava/lang/String;" (.ref a) := f201.same W202
  have f206 : Exa Z h202 g "com/example/beanloft/beanloft/naming/GlobalName" := (f200.keep (Keep.of_wr W202))
  have f207 : Fld Z h202 g "com/example/beanloft/beanloft/naming/GlobalName" "moduleName" "Ljava/lang/String;" .null := ((((((((((P2_.ext E102).ext E110).ext E119).keep Kq129 nin0).ext E135).keep Kq150 nin0).ext E159).keep Kq175 nin0).ext E185).other W202 (Or.inr (slot_ne (Or.inr (wd102 hw)) (Or.inr (wd100 hw)) (by decide) (t := (.object "java/lang/String")) (t' := (.object "java/lang/String")) (by decide) (by decide))))
  obtain ⟨T208, h208, X208, e208, W208, st208⟩ := putF X202 hx hZ hown (host := "") (Or.inl (wd101 hw)) Via.refl e202 f207 f206 (Or.inr ⟨(wd102 hw), rfl, hnm⟩) (wd31 hw) (ty := (.object "java/lang/String")) (by decide) rfl rfl (g := (mkF mi 58 #[.val (.ref g), .val (.ref a), .val (.ref m), .val (.ref b), .val .null] [(.ref m), (.ref g)])) rfl rfl (hb hby d_prog_9_method_1_code_58)
  have N208 := Fr.snoc X208 N202 g_g
  have c209 := CHr.keep (Keep.of_wr W208) (sfS (Safe.exa hZ.alike f206 (by decide) (by decide)) sf0) C204.1
  have C210 := CHr.trans C204 c209
  have f211 : Fld Z h208 g "com/example/beanloft/beanloft/naming/GlobalName" "moduleName" "Ljava/lang/String;" (.ref m) := f207.same W208
  have f212 : Exa Z h208 g "com/example/beanloft/beanloft/naming/GlobalName" := (f206.keep (Keep.of_wr W208))
  have f213 : Fld Z h208 g "com/example/beanloft/beanloft/naming/GlobalName" "beanName" "Ljava/lang/String;" .null := (((((((((((P3_.ext E102).ext E110).ext E119).keep Kq129 nin0).ext E135).keep Kq150 nin0).ext E159).keep Kq175 nin0).ext E185).other W202 (Or.inr (slot_ne (Or.inr (wd104 hw)) (Or.inr (wd100 hw)) (by decide) (t := (.object "java/lang/String")) (t' := (.object "java/lang/String")) (by decide) (by decide)))).other W208 (Or.inr (slot_ne (Or.inr (wd104 hw)) (Or.inr (wd102 hw)) (by decide) (t := (.object "java/lang/String")) (t' := (.object "java/lang/String")) (by decide) (by decide))))
  obtain ⟨T214, h214, X214, e214, W214, st214⟩ := putF X208 hx hZ hown (host := "") (Or.inl (wd103 hw)) Via.refl e208 f213 f212 (Or.inr ⟨(wd104 hw), rfl, hnm⟩) (wd31 hw) (ty := (.object "java/lang/String")) (by decide) rfl rfl (g := (mkF mi 63 #[.val (.ref g), .val (.ref a), .val (.ref m), .val (.ref b), .val .null] [(.ref b), (.ref g)])) rfl rfl (hb hby d_prog_9_method_1_code_63)
  have N214 := Fr.snoc X214 N208 g_g
  have c215 := CHr.keep (Keep.of_wr W214) (sfS (Safe.exa hZ.alike f212 (by decide) (by decide)) sf0) C210.1
  have C216 := CHr.trans C210 c215
  have f217 : Fld Z h214 g "com/example/beanloft/beanloft/naming/GlobalName" "beanName" "Ljava/lang/String;" (.ref b) := f213.same W214
  have f218 : Exa Z h214 g "com/example/beanloft/beanloft/naming/GlobalName" := (f212.keep (Keep.of_wr W214))
  have f219 : Fld Z h214 g "com/example/beanloft/beanloft/naming/GlobalName" "viewName" "Ljava/lang/String;" .null := ((((((((((((P4_.ext E102).ext E110).ext E119).keep Kq129 nin0).ext E135).keep Kq150 nin0).ext E159).keep Kq175 nin0).ext E185).other W202 (Or.inr (slot_ne (Or.inr (wd106 hw)) (Or.inr (wd100 hw)) (by decide) (t := (.object "java/lang/String")) (t' := (.object "java/lang/String")) (by decide) (by decide)))).other W208 (Or.inr (slot_ne (Or.inr (wd106 hw)) (Or.inr (wd102 hw)) (by decide) (t := (.object "java/lang/String")) (t' := (.object "java/lang/String")) (by decide) (by decide)))).other W214 (Or.inr (slot_ne (Or.inr (wd106 hw)) (Or.inr (wd104 hw)) (by decide) (t := (.object "java/lang/String")) (t' := (.object "java/lang/String")) (by decide) (by decide))))
  obtain ⟨T220, h220, X220, e220, W220, st220⟩ := putF X214 hx hZ hown (host := "") (Or.inl (wd105 hw)) Via.refl e214 f219 f218 (Or.inr ⟨(wd106 hw), rfl, hnm⟩) (wd31 hw) (ty := (.object "java/lang/String")) (by decide) rfl rfl (g := (mkF mi 69 #[.val (.ref g), .val (.ref a), .val (.ref m), .val (.ref b), .val .null] [.null, (.ref g)])) rfl rfl (hb hby d_prog_9_method_1_code_69)
  have N220 := Fr.snoc X220 N214 g_g
  have c221 := CHr.keep (Keep.of_wr W220) (sfS (Safe.exa hZ.alike f218 (by decide) (by decide)) sf0) C216.1
  have C222 := CHr.trans C216 c221
  have f223 : Fld Z h220 g "com/example/beanloft/beanloft/naming/GlobalName" "viewName" "Ljava/lang/String;" .null := f219.same W220
  have f224 : Exa Z h220 g "com/example/beanloft/beanloft/naming/GlobalName" := (f218.keep (Keep.of_wr W220))
  have f225 : Fld Z h220 g "com/example/beanloft/beanloft/naming/GlobalName" "appName" "Ljava/lang/String;" (.ref a) := (((f205.other W208 (Or.inr (slot_ne (Or.inr (wd100 hw)) (Or.inr (wd102 hw)) (by decide) (t := (.object "java/lang/String")) (t' := (.object "java/lang/String")) (by decide) (by decide)))).other W214 (Or.inr (slot_ne (Or.inr (wd100 hw)) (Or.inr (wd104 hw)) (by decide) (t := (.object "java/lang/String")) (t' := (.object "java/lang/String")) (by decide) (by decide)))).other W220 (Or.inr (slot_ne (Or.inr (wd100 hw)) (Or.inr (wd106 hw)) (by decide) (t := (.object "java/lang/String")) (t' := (.object "java/lang/String")) (by decide) (by decide))))
  have f226 : Fld Z h220 g "com/example/beanloft/beanloft/naming/GlobalName" "moduleName" "Ljava/lang/String;" (.ref m) := ((f211.other W214 (Or.inr (slot_ne (Or.inr (wd102 hw)) (Or.inr (wd104 hw)) (by decide) (t := (.object "java/lang/String")) (t' := (.object "java/lang/String")) (by decide) (by decide)))).other W220 (Or.inr (slot_ne (Or.inr (wd102 hw)) (Or.inr (wd106 hw)) (by decide) (t := (.object "java/lang/String")) (t' := (.object "java/lang/String")) (by decide) (by decide))))
  have f227 : Fld Z h220 g "com/example/beanloft/beanloft/naming/GlobalName" "beanName" "Ljava/lang/String;" (.ref b) := (f217.other W220 (Or.inr (slot_ne (Or.inr (wd104 hw)) (Or.inr (wd106 hw)) (by decide) (t := (.object "java/lang/String")) (t' := (.object "java/lang/String")) (by decide) (by decide))))
  obtain ⟨fs, hr, hrun, hended, hWe⟩ := X220.leaveW hS (show _ ≤ T220.heap.size by rw [e220]; exact (Nat.le_trans hk (Nat.le_trans (Nat.le_trans (Nat.le_trans (Keep.of_wr W202).1 (Keep.of_wr W208).1) (Keep.of_wr W214).1) (Keep.of_wr W220).1))) (v := none) (fun _ => rfl)
  refine ⟨_, _, pre186 _ ?_, hrun, hended, _, _, rfl, ?_, ?_, hWe.1, hWe.2.1, hWe.2.2.1, hWe.2.2.2.mono (by decide) (by decide)⟩
  · show Steps pg.tables ev below (T175.setTop (mkF mi 42 #[.val (.ref g), .val (.ref a), .val (.ref m), .val (.ref b), .val .null] [])) _
    refine st185 _ ?_
    show Steps pg.tables ev below (T185.setTop (mkF mi 44 #[.val (.ref g), .val (.ref a), .val (.ref m), .val (.ref b), .val .null] [(.ref a185)])) _
    refine XS.aload X185.here hx rfl (hb hby d_prog_9_method_1_code_44) rfl rfl ?_
    refine XS.aloadN X185.here hx rfl (hb hby d_prog_9_method_1_code_46) rfl rfl ?_
    refine XS.aloadN X185.here hx rfl (hb hby d_prog_9_method_1_code_47) rfl rfl ?_
    show Steps pg.tables ev below (T185.setTop (mkF mi 48 #[.val (.ref g), .val (.ref a), .val (.ref m), .val (.ref b), .val .null] [(.ref b), (.ref m), .null, (.ref a185)])) _
    refine st199 _ ?_
    show Steps pg.tables ev below (T199.setTop (mkF mi 51 #[.val (.ref g), .val (.ref a), .val (.ref m), .val (.ref b), .val .null] [])) _
    refine XS.aloadN X199.here hx rfl (hb hby d_prog_9_method_1_code_51) rfl rfl ?_
    refine XS.aloadN X199.here hx rfl (hb hby d_prog_9_method_1_code_52) rfl rfl ?_
    show Steps pg.tables ev below (T199.setTop (mkF mi 53 #[.val (.ref g), .val (.ref a), .val (.ref m), .val (.ref b), .val .null] [(.ref a), (.ref g)])) _
    refine st202 _ ?_
    show Steps pg.tables ev below (T202.setTop (mkF mi 56 #[.val (.ref g), .val (.ref a), .val (.ref m), .val (.ref b), .val .null] [])) _
    refine XS.aloadN X202.here hx rfl (hb hby d_prog_9_method_1_code_56) rfl rfl ?_
    refine XS.aloadN X202.here hx rfl (hb hby d_prog_9_method_1_code_57) rfl rfl ?_
    show Steps pg.tables ev below (T202.setTop (mkF mi 58 #[.val (.ref g), .val (.ref a), .val (.ref m), .val (.ref b), .val .null] [(.ref m), (.ref g)])) _
    refine st208 _ ?_
    show Steps pg.tables ev below (T208.setTop (mkF mi 61 #[.val (.ref g), .val (.ref a), .val (.ref m), .val (.ref b), .val .null] [])) _
    refine XS.aloadN X208.here hx rfl (hb hby d_prog_9_method_1_code_61) rfl rfl ?_
    refine XS.aloadN X208.here hx rfl (hb hby d_prog_9_method_1_code_62) rfl rfl ?_
    show Steps pg.tables ev below (T208.setTop (mkF mi 63 #[.val (.ref g), .val (.ref a), .val (.ref m), .val (.ref b), .val .null] [(.ref b), (.ref g)])) _
    refine st214 _ ?_
    show Steps pg.tables ev below (T214.setTop (mkF mi 66 #[.val (.ref g), .val (.ref a), .val (.ref m), .val (.ref b), .val .null] [])) _
    refine XS.aloadN X214.here hx rfl (hb hby d_prog_9_method_1_code_66) rfl rfl ?_
    refine XS.aload X214.here hx rfl (hb hby d_prog_9_method_1_code_67) rfl rfl ?_
    show Steps pg.tables ev below (T214.setTop (mkF mi 69 #[.val (.ref g), .val (.ref a), .val (.ref m), .val (.ref b), .val .null] [.null, (.ref g)])) _
    refine st220 _ ?_
    show Steps pg.tables ev below (T220.setTop (mkF mi 72 #[.val (.ref g), .val (.ref a), .val (.ref m), .val (.ref b), .val .null] [])) _
    exact X220.returnOut hx Bd.returns (hb hby d_prog_9_method_1_code_72) hr
  · show Q_gin1110 Z g a ta ca0 m tm cm0 b tb cb0 zc hE n0 _ T220.heap _
    rw [e220]
    exact ⟨rfl, N220, ((((((((((((((Keep.refl hE [g]).ext E102).ext E110).ext E119).trans Kq129 all0).ext E135).trans Kq150 all0).ext E159).trans Kq175 all0).ext E185).trans (Keep.of_wr W202) (allS (Or.inl (List.mem_of_getElem? (i := 0) rfl)) all0)).trans (Keep.of_wr W208) (allS (Or.inl (List.mem_of_getElem? (i := 0) rfl)) all0)).trans (Keep.of_wr W214) (allS (Or.inl (List.mem_of_getElem? (i := 0) rfl)) all0)).trans (Keep.of_wr W220) (allS (Or.inl (List.mem_of_getElem? (i := 0) rfl)) all0)), f224, f225, f226, f227, f223⟩
  · show CHr Z ELs sb.vm sb.heap T220.vm T220.heap
    rw [hh, e220]
    exact CHr.trans C222 (CHv.at X220 hZ hEL C222.1)
theorem ef_gin1111 (mi : MethodId) (g : Addr) (a : Addr) (m : Addr) (b : Addr) (v : Addr) : entryFrame mi #[(.ref g), (.ref a), (.ref m), (.ref b), (.ref v)] 5 = mkF mi 0 #[.val (.ref g), .val (.ref a), .val (.ref m), .val (.ref b), .val (.ref v)] [] := by first | (simp [entryFrame, mkF, argsToLocals, Value.category]; done) | rfl
def Q_gin1111 (Z : State) (g : Addr) (a : Addr) (ta : Addr) (ca0 : Int32) (m : Addr) (tm : Addr) (cm0 : Int32) (b : Addr) (tb : Addr) (cb0 : Int32) (v : Addr) (tv : Addr) (cv0 : Int32) (zc : Int32) (hE : Heap) (n0 : Nat) (vv : Option Value) (hh : Heap) (LL : List Loc) : Prop := (vv = none) ∧ (Fr n0 LL) ∧ (Keep hE hh [g]) ∧ (Exa Z hh g "com/example/beanloft/beanloft/naming/GlobalName") ∧ (Fld Z hh g "com/example/beanloft/beanloft/naming/GlobalName" "appName" "Ljava/lang/String;" (.ref a)) ∧ (Fld Z hh g "com/example/beanloft/beanloft/naming/GlobalName" "moduleName" "Ljava/lang/String;" (.ref m)) ∧ (Fld Z hh g "com/example/beanloft/beanloft/naming/GlobalName" "beanName" "Ljava/lang/String;" (.ref b)) ∧ (Fld Z hh g "com/example/beanloft/beanloft/naming/GlobalName" "viewName" "Ljava/lang/String;" (.ref v))
set_option maxRecDepth 65536 in
set_option maxHeartbeats 40000000 in
theorem rm_gin1111 (la : Launch) (Z : State) (a0 : Array Value) (hw : ∀ d ∈ tables_1, d.before a0 Z = true) (ws : List Jvm.Cond) (g : Addr) (a : Addr) (ta : Addr) (ca0 : Int32) (m : Addr) (tm : Addr) (cm0 : Int32) (b : Addr) (tb : Addr) (cb0 : Int32) (v : Addr) (tv : Addr) (cv0 : Int32) (zc : Int32) (hE : Heap) (n0 : Nat) (O : Old Z n0 hE) (P0_ : Exa Z hE g "com/example/beanloft/beanloft/naming/GlobalName") (P1_ : Fld Z hE g "com/example/beanloft/beanloft/naming/GlobalName" "appName" "Ljava/lang/String;" .null) (P2_ : Fld Z hE g "com/example/beanloft/beanloft/naming/GlobalName" "moduleName" "Ljava/lang/String;" .null) (P3_ : Fld Z hE g "com/example/beanloft/beanloft/naming/GlobalName" "beanName" "Ljava/lang/String;" .null) (P4_ : Fld Z hE g "com/example/beanloft/beanloft/naming/GlobalName" "viewName" "Ljava/lang/String;" .null) (P5_ : LStr Z hE a ta ([ca0] : List Int32)) (P6_ : LStr Z hE m tm ([cm0] : List Int32)) (P7_ : LStr Z hE b tb ([cb0] : List Int32)) (P8_ : LStr Z hE v tv ([cv0] : List Int32)) (D0_ : Sta Z Z.heap "java/lang/String" "COMPACT_STRINGS" "Z" (.int zc)) (g_g : n0 ≤ g) (ne_a_g : a ≠ g) (ne_ta_g : ta ≠ g) (ne_m_g : m ≠ g) (ne_tm_g : tm ≠ g) (ne_b_g : b ≠ g) (ne_tb_g : tb ≠ g) (ne_v_g : v ≠ g) (ne_tv_g : tv ≠ g) (h47_ca0 : ¬ ((ca0.toInt8.toInt32) = (47 : Int32))) (h33_ca0 : ¬ ((ca0.toInt8.toInt32) = (33 : Int32))) (h47_cm0 : ¬ ((cm0.toInt8.toInt32) = (47 : Int32))) (h33_cm0 : ¬ ((cm0.toInt8.toInt32) = (33 : Int32))) (h47_cb0 : ¬ ((cb0.toInt8.toInt32) = (47 : Int32))) (h33_cb0 : ¬ ((cb0.toInt8.toInt32) = (33 : Int32))) (h47_cv0 : ¬ ((cv0.toInt8.toInt32) = (47 : Int32))) (h33_cv0 : ¬ ((cv0.toInt8.toInt32) = (33 : Int32))) (hzc : ¬ (zc = (0 : Int32))) :
    MetFree la mn17 (head1 (Jvm.Cond.code mn17 prog_9_method_1_code 5 none :: ws) ({ frames := 5, cells := 16, slots := 292, locals := 77 } : Room)) (fun aa UU => aa = #[(.ref g), (.ref a), (.ref m), (.ref b), (.ref v)] ∧ Z.Warmed39 UU.vm ∧ UU.heap = hE ∧ CHv Z ELs UU.vm hE) (fun _ _ _ _ _ => True) (fun _ UU oo UV => ∃ vv LL, oo = .returned vv ∧ Q_gin1111 Z g a ta ca0 m tm cm0 b tb cb0 v tv cv0 zc hE n0 vv UV.heap LL ∧ CHr Z ELs UU.vm UU.heap UV.vm UV.heap ∧ ReturnedEndW UU oo UV LL ({ frames := 5, cells := 16, slots := 292, locals := 77 } : Room).cells ({ frames := 5, cells := 16, slots := 292, locals := 77 } : Room).slots) := by
  refine MetFree.of_bodySF (plainFor_of_name pn_com_example_beanloft_beanloft_naming_GlobalName) hisR ?_
  intro pg ev sb mi gs below me cd s₁ Bd hml0 hPt hKt
  obtain ⟨rfl, hZ, hh, hH⟩ := hPt
  have hx := Bd.exec
  have hby := Bd.bytes
  have hml : cd.maxLocals = 5 := hml0
  have hown : sb.vm.findClass "com/example/beanloft/beanloft/naming/GlobalName" = some mi.cls := findClass_of_methodNamed Bd.named
  have hnm := (name_of_methodNamed Bd.named Bd.method).1
  have X0 : Stand pg la ev ({ frames := 5, cells := 16, slots := 292, locals := 77 } : Room) (sb.setVm sb.vm) mi #[(.ref g), (.ref a), (.ref m), (.ref b), (.ref v)] below me cd s₁ [] 0 0 := Stand.of_body Bd
  have eE : s₁.heap = hE := by rw [← hh, Bd.state]; rfl
  have N0 := Fr.nil n0
  have pre0 : ∀ tt, Steps pg.tables ev below (s₁.setTop (mkF mi 0 #[.val (.ref g), .val (.ref a), .val (.ref m), .val (.ref b), .val (.ref v)] [])) tt → Steps pg.tables ev below (s₁.setTop (entryFrame mi #[(.ref g), (.ref a), (.ref m), (.ref b), (.ref v)] 5)) tt := fun tt kk => castTop (ef_gin1111 mi g a m b v) kk
  have hS : sb.Since sb.vm 0 := (State.WarmedH.refl sb).since 0
  have hk : 0 ≤ hE.size := Nat.zero_le _
  have hEL := own_EW hw
  have C0 := CHr.refl hH
  obtain ⟨v101, _, ⟨T101, L101, k101, n101⟩, -, X101, ⟨Lc101, hQ101, l101, y101, z101⟩, st101⟩ := X0.specialBack hx (y := mn5) rfl hown (mvT hZ (wd36 hw)) (mvT hZ (wd37 hw)) (mvT hZ (wd40 hw)) (by decide) (backOf (W := 0) (rm_rec la Z a0 hw [] g hE n0 O) hZ (wd40 hw) (wd39 hw) (by decide) (by decide)) (g := (mkF mi 1 #[.val (.ref g), .val (.ref a), .val (.ref m), .val (.ref b), .val (.ref v)] [(.ref g)])) rfl (by rw [hml]; rfl) (Steps.refl _) (a := g) (argsL := []) (rest := []) (lenOf pd_10 rfl) rfl (by show 2 * 0 + _ ≤ _; exact Nat.le_of_eq rfl) (hb hby d_prog_9_method_1_code_1) (fun _ _ => ⟨rfl, eE, (by decide : 0 + 0 ≤ _), (by decide : 0 + 0 ≤ _)⟩)
  dsimp only [Pt.U, Pt.locs, Pt.cells, Pt.slots] at X101 l101 y101 z101 st101 hQ101
  subst l101 y101 z101
  obtain ⟨rfl, Nq101, ek101⟩ := hQ101
  have N101 := Fr.app N0 Nq101
  have pre103 : ∀ tt, Steps pg.tables ev below (T101.setTop (mkF mi 5 #[.val (.ref g), .val (.ref a), .val (.ref m), .val (.ref b), .val (.ref v)] [(.ref m)])) tt → Steps pg.tables ev below (s₁.setTop (entryFrame mi #[(.ref g), (.ref a), (.ref m), (.ref b), (.ref v)] 5)) tt := fun tt kk => pre0 _ (by
    show Steps pg.tables ev below (s₁.setTop (mkF mi 0 #[.val (.ref g), .val (.ref a), .val (.ref m), .val (.ref b), .val (.ref v)] [])) _
    refine XS.aloadN X0.here hx rfl (hb hby d_prog_9_method_1_code_0) rfl rfl ?_
    show Steps pg.tables ev below (s₁.setTop (mkF mi 1 #[.val (.ref g), .val (.ref a), .val (.ref m), .val (.ref b), .val (.ref v)] [(.ref g)])) _
    refine st101.trans ?_
    show Steps pg.tables ev below (T101.setTop (mkF mi 4 #[.val (.ref g), .val (.ref a), .val (.ref m), .val (.ref b), .val (.ref v)] [])) _
    refine XS.aloadN X101.here hx rfl (hb hby d_prog_9_method_1_code_4) rfl rfl ?_
    exact kk)
  obtain ⟨a102, T102, h102, k102, X102, e102, E102, hs104, hk105, hZ, hown, c102, lt106, st102⟩ := ldcOH (s := sb.setVm sb.vm) X101 hx hZ hown (wd42 hw) (own_wS hw) ek101 ((State.WarmedH.refl (sb.setVm sb.vm)).since 0) (Nat.zero_le _) hEL C0.1 (g := (mkF mi 5 #[.val (.ref g), .val (.ref a), .val (.ref m), .val (.ref b), .val (.ref v)] [(.ref m)])) rfl (hb hby d_prog_9_method_1_code_5) (n := 40) (by decide) (by decide) (by decide) (by decide)
  have X102 := own_restand X102
  have hS := hS.trans (⟨hs104.1, hs104.2.mono hk105⟩ : (sb.setVm sb.vm).Since T102.vm h102.size) (Nat.le_trans hk E102.1)
  have hk : h102.size ≤ h102.size := Nat.le_refl _
  have C107 := CHr.trans C0 c102
  have O108 : Old Z n0 h102 := (O.ext E102)
  obtain ⟨v109, _, ⟨T109, L109, k109, n109⟩, -, X109, ⟨Lc109, hQ109, l109, y109, z109⟩, st109⟩ := Jvm.LawKit.callS X102 hx (y := mn6) hown (mvT hZ (wd45 hw)) (mvT hZ (wd46 hw)) (mvT hZ (wd47 hw)) (mvT hZ (wd48 hw)) (by decide) (backOf (W := 0) (rm_rnn2 la Z a0 hw [] m a102 h102 n0 O108) hZ (wd48 hw) (wd47 hw) (by decide) (by decide)) (g := (mkF mi 7 #[.val (.ref g), .val (.ref a), .val (.ref m), .val (.ref b), .val (.ref v)] [(.ref a102), (.ref m)])) rfl (by rw [hml]; rfl) (argsL := [(.ref m), (.ref a102)]) (rest := []) (lenOf pd_11 rfl) rfl (by show 2 * 0 + _ ≤ _; exact Nat.le_of_eq rfl) (hb hby d_prog_9_method_1_code_7) (fun _ _ => ⟨rfl, e102, (by decide : 2 + 0 ≤ _), (by decide : 44 + 0 ≤ _)⟩)
  dsimp only [Pt.U, Pt.locs, Pt.cells, Pt.slots] at X109 l109 y109 z109 st109 hQ109
  subst l109 y109 z109
  obtain ⟨rfl, Nq109, ek109⟩ := hQ109
  have N109 := Fr.app N101 Nq109
  have pre111 : ∀ tt, Steps pg.tables ev below (T109.setTop (mkF mi 12 #[.val (.ref g), .val (.ref a), .val (.ref m), .val (.ref b), .val (.ref v)] [(.ref b)])) tt → Steps pg.tables ev below (s₁.setTop (entryFrame mi #[(.ref g), (.ref a), (.ref m), (.ref b), (.ref v)] 5)) tt := fun tt kk => pre103 _ (by
    show Steps pg.tables ev below (T101.setTop (mkF mi 5 #[.val (.ref g), .val (.ref a), .val (.ref m), .val (.ref b), .val (.ref v)] [(.ref m)])) _
    refine st102 _ ?_
    show Steps pg.tables ev below (T102.setTop (mkF mi 7 #[.val (.ref g), .val (.ref a), .val (.ref m), .val (.ref b), .val (.ref v)] [(.ref a102), (.ref m)])) _
    refine st109 _ ?_
    show Steps pg.tables ev below (T109.setTop (mkF mi 10 #[.val (.ref g), .val (.ref a), .val (.ref m), .val (.ref b), .val (.ref v)] [(.ref m)])) _
    refine XS.pop X109.here hx rfl (hb hby d_prog_9_method_1_code_10) rfl rfl ?_
    refine XS.aloadN X109.here hx rfl (hb hby d_prog_9_method_1_code_11) rfl rfl ?_
    exact kk)
  obtain ⟨a110, T110, h110, k110, X110, e110, E110, hs112, hk113, hZ, hown, c110, lt114, st110⟩ := ldcOH (s := sb.setVm T102.vm) X109 hx hZ hown (wd49 hw) (own_wS hw) ek109 ((State.WarmedH.refl (sb.setVm T102.vm)).since 0) (Nat.zero_le _) hEL C107.1 (g := (mkF mi 12 #[.val (.ref g), .val (.ref a), .val (.ref m), .val (.ref b), .val (.ref v)] [(.ref b)])) rfl (hb hby d_prog_9_method_1_code_12) (n := 32) (by decide) (by decide) (by decide) (by decide)
  have X110 := own_restand X110
  have hS := hS.trans (⟨hs112.1, hs112.2.mono hk113⟩ : (sb.setVm T102.vm).Since T110.vm h110.size) (Nat.le_trans hk E110.1)
  have hk : h110.size ≤ h110.size := Nat.le_refl _
  have lt115 := Lit.stays (s := sb) lt106 hs112.1
  have C116 := CHr.trans C107 c110
  have O117 : Old Z n0 h110 := (O108.ext E110)
  obtain ⟨v118, _, ⟨T118, L118, k118, n118⟩, -, X118, ⟨Lc118, hQ118, l118, y118, z118⟩, st118⟩ := Jvm.LawKit.callS X110 hx (y := mn6) hown (mvT hZ (wd45 hw)) (mvT hZ (wd46 hw)) (mvT hZ (wd47 hw)) (mvT hZ (wd48 hw)) (by decide) (backOf (W := 0) (rm_rnn2 la Z a0 hw [] b a110 h110 n0 O117) hZ (wd48 hw) (wd47 hw) (by decide) (by decide)) (g := (mkF mi 14 #[.val (.ref g), .val (.ref a), .val (.ref m), .val (.ref b), .val (.ref v)] [(.ref a110), (.ref b)])) rfl (by rw [hml]; rfl) (argsL := [(.ref b), (.ref a110)]) (rest := []) (lenOf pd_11 rfl) rfl (by show 2 * 0 + _ ≤ _; exact Nat.le_of_eq rfl) (hb hby d_prog_9_method_1_code_14) (fun _ _ => ⟨rfl, e110, (by decide : 4 + 0 ≤ _), (by decide : 80 + 0 ≤ _)⟩)
  dsimp only [Pt.U, Pt.locs, Pt.cells, Pt.slots] at X118 l118 y118 z118 st118 hQ118
  subst l118 y118 z118
  obtain ⟨rfl, Nq118, ek118⟩ := hQ118
  have N118 := Fr.app N109 Nq118
  have pre120 : ∀ tt, Steps pg.tables ev below (T118.setTop (mkF mi 18 #[.val (.ref g), .val (.ref a), .val (.ref m), .val (.ref b), .val (.ref v)] [])) tt → Steps pg.tables ev below (s₁.setTop (entryFrame mi #[(.ref g), (.ref a), (.ref m), (.ref b), (.ref v)] 5)) tt := fun tt kk => pre111 _ (by
    show Steps pg.tables ev below (T109.setTop (mkF mi 12 #[.val (.ref g), .val (.ref a), .val (.ref m), .val (.ref b), .val (.ref v)] [(.ref b)])) _
    refine st110 _ ?_
    show Steps pg.tables ev below (T110.setTop (mkF mi 14 #[.val (.ref g), .val (.ref a), .val (.ref m), .val (.ref b), .val (.ref v)] [(.ref a110), (.ref b)])) _
    refine st118 _ ?_
    show Steps pg.tables ev below (T118.setTop (mkF mi 17 #[.val (.ref g), .val (.ref a), .val (.ref m), .val (.ref b), .val (.ref v)] [(.ref b)])) _
    refine XS.pop X118.here hx rfl (hb hby d_prog_9_method_1_code_17) rfl rfl ?_
    exact kk)
  obtain ⟨a119, T119, h119, k119, X119, e119, E119, hs121, hk122, hZ, hown, c119, lt123, st119⟩ := ldcOH (s := sb.setVm T110.vm) X118 hx hZ hown (wd50 hw) (own_wS hw) ek118 ((State.WarmedH.refl (sb.setVm T110.vm)).since 0) (Nat.zero_le _) hEL C116.1 (g := (mkF mi 18 #[.val (.ref g), .val (.ref a), .val (.ref m), .val (.ref b), .val (.ref v)] [])) rfl (hb hby d_prog_9_method_1_code_18) (n := 64) (by decide) (by decide) (by decide) (by decide)
  have X119 := own_restand X119
  have hS := hS.trans (⟨hs121.1, hs121.2.mono hk122⟩ : (sb.setVm T110.vm).Since T119.vm h119.size) (Nat.le_trans hk E119.1)
  have hk : h119.size ≤ h119.size := Nat.le_refl _
  have lt124 := Lit.stays (s := sb) lt115 hs121.1
  have lt125 := Lit.stays (s := sb) lt114 hs121.1
  have C126 := CHr.trans C116 c119
  have O127 : Old Z n0 h119 := (O117.ext E119)
  have f128 : LStr Z h119 a ta ([ca0] : List Int32) := (((P5_.ext E102).ext E110).ext E119)
  have pre130 : ∀ tt, Steps pg.tables ev below (T119.setTop (mkF mi 23 #[.val (.ref g), .val (.ref a), .val (.ref m), .val (.ref b), .val (.ref v)] [(.ref b), (.ref m), (.ref a), (.ref a119)])) tt → Steps pg.tables ev below (s₁.setTop (entryFrame mi #[(.ref g), (.ref a), (.ref m), (.ref b), (.ref v)] 5)) tt := fun tt kk => pre120 _ (by
    show Steps pg.tables ev below (T118.setTop (mkF mi 18 #[.val (.ref g), .val (.ref a), .val (.ref m), .val (.ref b), .val (.ref v)] [])) _
    refine st119 _ ?_
    show Steps pg.tables ev below (T119.setTop (mkF mi 20 #[.val (.ref g), .val (.ref a), .val (.ref m), .val (.ref b), .val (.ref v)] [(.ref a119)])) _
    refine XS.aloadN X119.here hx rfl (hb hby d_prog_9_method_1_code_20) rfl rfl ?_
    refine XS.aloadN X119.here hx rfl (hb hby d_prog_9_method_1_code_21) rfl rfl ?_
    refine XS.aloadN X119.here hx rfl (hb hby d_prog_9_method_1_code_22) rfl rfl ?_
    exact kk)
  obtain ⟨v129, _, ⟨T129, L129, k129, n129⟩, -, X129, s129, gr129, ⟨Lc129, hQ129, l129, y129, z129, c129, ly0_129, lu0_129, ly1_129, lu1_129, ll0_129, ls0_129, ll1_129, ls1_129⟩, st129⟩ := callSS X119 hx (y := mn16) hown (mvT hZ (wd51 hw)) (mvT hZ (wd52 hw)) (mvT hZ (wd32 hw)) (mvT hZ (wd53 hw)) (by decide) (own_backSL (W := 0) (LP := fun vm => True) (LQ := fun vm h => ∃ ly0 lu0 ly1 lu1 : Addr, Lit (Z.setVm vm) "com/example/beanloft/beanloft/naming/GlobalName" 125 ly0 ∧ LStr Z h ly0 lu0 ([(47 : Int32)] : List Int32) ∧ Lit (Z.setVm vm) "com/example/beanloft/beanloft/naming/GlobalName" 131 ly1 ∧ LStr Z h ly1 lu1 ([(33 : Int32)] : List Int32)) (fun hW => trivial) (rm_seg1 la Z a0 hw [] a119 a m b ta ca0 zc h119 n0 O127 f128 D0_ (h47_ca0 : ¬ ((ca0.toInt8.toInt32) = (47 : Int32))) (h33_ca0 : ¬ ((ca0.toInt8.toInt32) = (33 : Int32))) (hzc : ¬ (zc = (0 : Int32)))) hZ (wd53 hw) (wd32 hw) (by decide) (by decide) hEL C126.1) (g := (mkF mi 23 #[.val (.ref g), .val (.ref a), .val (.ref m), .val (.ref b), .val (.ref v)] [(.ref b), (.ref m), (.ref a), (.ref a119)])) rfl (by rw [hml]; rfl) (argsL := [(.ref a119), (.ref a), (.ref m), (.ref b)]) (rest := []) (lenOf pd_12 rfl) rfl (by show 2 * 0 + _ ≤ _; exact Nat.le_of_eq rfl) (hb hby d_prog_9_method_1_code_23) (fun _ _ => ⟨rfl, e119, (by decide : 6 + 4 ≤ _), (by decide : 148 + 16 ≤ _)⟩)
  dsimp only [Pt.U, Pt.locs, Pt.cells, Pt.slots] at X129 s129 gr129 l129 y129 z129 c129 st129 hQ129
  subst l129 y129 z129
  dsimp only [Pt.U] at ll0_129 ls0_129 ll1_129 ls1_129
  have lt131 := Lit.stays (s := sb) lt124 s129.1
  have lt132 := Lit.stays (s := sb) lt125 s129.1
  have lt133 := Lit.stays (s := sb) lt123 s129.1
  obtain ⟨X129, hS, hZ, hown⟩ := rebS hS (show _ ≤ T119.heap.size by rw [e119]; exact hk) X129 s129 gr129 hZ hown
  have hk : T129.heap.size ≤ T129.heap.size := Nat.le_refl _
  obtain ⟨rfl, Nq129, Kq129⟩ := hQ129
  have N129 := Fr.app N118 Nq129
  have C134 := CHr.trans C126 c129
  have pre136 : ∀ tt, Steps pg.tables ev below (T129.setTop (mkF mi 26 #[.val (.ref g), .val (.ref a), .val (.ref m), .val (.ref b), .val (.ref v)] [])) tt → Steps pg.tables ev below (s₁.setTop (entryFrame mi #[(.ref g), (.ref a), (.ref m), (.ref b), (.ref v)] 5)) tt := fun tt kk => pre130 _ (by
    show Steps pg.tables ev below (T119.setTop (mkF mi 23 #[.val (.ref g), .val (.ref a), .val (.ref m), .val (.ref b), .val (.ref v)] [(.ref b), (.ref m), (.ref a), (.ref a119)])) _
    refine st129.trans ?_
    exact kk)
  obtain ⟨a135, T135, h135, k135, X135, e135, E135, hs137, hk138, hZ, hown, c135, lt139, st135⟩ := ldcOH (s := sb.setVm T129.vm) X129 hx hZ hown (wd54 hw) (own_wS hw) rfl ((State.WarmedH.refl (sb.setVm T129.vm)).since 0) (Nat.zero_le _) hEL C134.1 (g := (mkF mi 26 #[.val (.ref g), .val (.ref a), .val (.ref m), .val (.ref b), .val (.ref v)] [])) rfl (hb hby d_prog_9_method_1_code_26) (n := 44) (by decide) (by decide) (by decide) (by decide)
  have X135 := own_restand X135
  have hS := hS.trans (⟨hs137.1, hs137.2.mono hk138⟩ : (sb.setVm T129.vm).Since T135.vm h135.size) (Nat.le_trans hk E135.1)
  have hk : h135.size ≤ h135.size := Nat.le_refl _
  have lt140 := Lit.stays (s := sb) lt131 hs137.1
  have lt141 := Lit.stays (s := sb) lt132 hs137.1
  have lt142 := Lit.stays (s := sb) lt133 hs137.1
  have lt143 := Lit.stays (s := sb) ll0_129 hs137.1
  have lt144 := Lit.stays (s := sb) ll1_129 hs137.1
  have C145 := CHr.trans C134 c135
  have O146 : Old Z n0 h135 := ((O127.keep Kq129 all0).ext E135)
  have f147 : LStr Z h135 m tm ([cm0] : List Int32) := (((((P6_.ext E102).ext E110).ext E119).keep Kq129 nin0 nin0).ext E135)
  have f148 : LStr Z h135 ly0_129 lu0_129 ([(47 : Int32)] : List Int32) := (ls0_129.ext E135)
  have f149 : LStr Z h135 ly1_129 lu1_129 ([(33 : Int32)] : List Int32) := (ls1_129.ext E135)
  have pre151 : ∀ tt, Steps pg.tables ev below (T135.setTop (mkF mi 31 #[.val (.ref g), .val (.ref a), .val (.ref m), .val (.ref b), .val (.ref v)] [(.ref b), (.ref m), (.ref m), (.ref a135)])) tt → Steps pg.tables ev below (s₁.setTop (entryFrame mi #[(.ref g), (.ref a), (.ref m), (.ref b), (.ref v)] 5)) tt := fun tt kk => pre136 _ (by
    show Steps pg.tables ev below (T129.setTop (mkF mi 26 #[.val (.ref g), .val (.ref a), .val (.ref m), .val (.ref b), .val (.ref v)] [])) _
    refine st135 _ ?_
    show Steps pg.tables ev below (T135.setTop (mkF mi 28 #[.val (.ref g), .val (.ref a), .val (.ref m), .val (.ref b), .val (.ref v)] [(.ref a135)])) _
    refine XS.aloadN X135.here hx rfl (hb hby d_prog_9_method_1_code_28) rfl rfl ?_
    refine XS.aloadN X135.here hx rfl (hb hby d_prog_9_method_1_code_29) rfl rfl ?_
    refine XS.aloadN X135.here hx rfl (hb hby d_prog_9_method_1_code_30) rfl rfl ?_
    exact kk)
  obtain ⟨v150, _, ⟨T150, L150, k150, n150⟩, -, X150, s150, gr150, ⟨Lc150, hQ150, l150, y150, z150, c150, -⟩, st150⟩ := callSS X135 hx (y := mn16) hown (mvT hZ (wd51 hw)) (mvT hZ (wd52 hw)) (mvT hZ (wd32 hw)) (mvT hZ (wd53 hw)) (by decide) (own_backSL (W := 0) (LP := fun vm => Lit (Z.setVm vm) "com/example/beanloft/beanloft/naming/GlobalName" 125 ly0_129 ∧ Lit (Z.setVm vm) "com/example/beanloft/beanloft/naming/GlobalName" 131 ly1_129) (LQ := fun vm h => True) (fun hW => ⟨Lit.stays (s := sb) lt143 hW, Lit.stays (s := sb) lt144 hW⟩) (rm_seg1L la Z a0 hw [] a135 m m b tm ly0_129 lu0_129 ly1_129 lu1_129 cm0 zc h135 n0 O146 f147 f148 f149 D0_ (h47_cm0 : ¬ ((cm0.toInt8.toInt32) = (47 : Int32))) (h33_cm0 : ¬ ((cm0.toInt8.toInt32) = (33 : Int32))) (hzc : ¬ (zc = (0 : Int32)))) hZ (wd53 hw) (wd32 hw) (by decide) (by decide) hEL C145.1) (g := (mkF mi 31 #[.val (.ref g), .val (.ref a), .val (.ref m), .val (.ref b), .val (.ref v)] [(.ref b), (.ref m), (.ref m), (.ref a135)])) rfl (by rw [hml]; rfl) (argsL := [(.ref a135), (.ref m), (.ref m), (.ref b)]) (rest := []) (lenOf pd_12 rfl) rfl (by show 2 * 0 + _ ≤ _; exact Nat.le_of_eq rfl) (hb hby d_prog_9_method_1_code_31) (fun _ _ => ⟨rfl, e135, (by decide : 12 + 0 ≤ _), (by decide : 212 + 0 ≤ _)⟩)
  dsimp only [Pt.U, Pt.locs, Pt.cells, Pt.slots] at X150 s150 gr150 l150 y150 z150 c150 st150 hQ150
  subst l150 y150 z150
  have lt152 := Lit.stays (s := sb) lt140 s150.1
  have lt153 := Lit.stays (s := sb) lt141 s150.1
  have lt154 := Lit.stays (s := sb) lt142 s150.1
  have lt155 := Lit.stays (s := sb) lt143 s150.1
  have lt156 := Lit.stays (s := sb) lt144 s150.1
  have lt157 := Lit.stays (s := sb) lt139 s150.1
  obtain ⟨X150, hS, hZ, hown⟩ := rebS hS (show _ ≤ T135.heap.size by rw [e135]; exact hk) X150 s150 gr150 hZ hown
  have hk : T150.heap.size ≤ T150.heap.size := Nat.le_refl _
  obtain ⟨rfl, Nq150, Kq150⟩ := hQ150
  have N150 := Fr.app N129 Nq150
  have C158 := CHr.trans C145 c150
  have pre160 : ∀ tt, Steps pg.tables ev below (T150.setTop (mkF mi 34 #[.val (.ref g), .val (.ref a), .val (.ref m), .val (.ref b), .val (.ref v)] [])) tt → Steps pg.tables ev below (s₁.setTop (entryFrame mi #[(.ref g), (.ref a), (.ref m), (.ref b), (.ref v)] 5)) tt := fun tt kk => pre151 _ (by
    show Steps pg.tables ev below (T135.setTop (mkF mi 31 #[.val (.ref g), .val (.ref a), .val (.ref m), .val (.ref b), .val (.ref v)] [(.ref b), (.ref m), (.ref m), (.ref a135)])) _
    refine st150.trans ?_
    exact kk)
  obtain ⟨a159, T159, h159, k159, X159, e159, E159, hs161, hk162, hZ, hown, c159, lt163, st159⟩ := ldcOH (s := sb.setVm T150.vm) X150 hx hZ hown (wd97 hw) (own_wS hw) rfl ((State.WarmedH.refl (sb.setVm T150.vm)).since 0) (Nat.zero_le _) hEL C158.1 (g := (mkF mi 34 #[.val (.ref g), .val (.ref a), .val (.ref m), .val (.ref b), .val (.ref v)] [])) rfl (hb hby d_prog_9_method_1_code_34) (n := 36) (by decide) (by decide) (by decide) (by decide)
  have X159 := own_restand X159
  have hS := hS.trans (⟨hs161.1, hs161.2.mono hk162⟩ : (sb.setVm T150.vm).Since T159.vm h159.size) (Nat.le_trans hk E159.1)
  have hk : h159.size ≤ h159.size := Nat.le_refl _
  have lt164 := Lit.stays (s := sb) lt152 hs161.1
  have lt165 := Lit.stays (s := sb) lt153 hs161.1
  have lt166 := Lit.stays (s := sb) lt154 hs161.1
  have lt167 := Lit.stays (s := sb) lt155 hs161.1
  have lt168 := Lit.stays (s := sb) lt156 hs161.1
  have lt169 := Lit.stays (s := sb) lt157 hs161.1
  have C170 := CHr.trans C158 c159
  have O171 : Old Z n0 h159 := ((O146.keep Kq150 all0).ext E159)
  have f172 : LStr Z h159 b tb ([cb0] : List Int32) := (((((((P7_.ext E102).ext E110).ext E119).keep Kq129 nin0 nin0).ext E135).keep Kq150 nin0 nin0).ext E159)
  have f173 : LStr Z h159 ly0_129 lu0_129 ([(47 : Int32)] : List Int32) := ((f148.keep Kq150 nin0 nin0).ext E159)
  have f174 : LStr Z h159 ly1_129 lu1_129 ([(33 : Int32)] : List Int32) := ((f149.keep Kq150 nin0 nin0).ext E159)
  have pre176 : ∀ tt, Steps pg.tables ev below (T159.setTop (mkF mi 39 #[.val (.ref g), .val (.ref a), .val (.ref m), .val (.ref b), .val (.ref v)] [(.ref b), (.ref m), (.ref b), (.ref a159)])) tt → Steps pg.tables ev below (s₁.setTop (entryFrame mi #[(.ref g), (.ref a), (.ref m), (.ref b), (.ref v)] 5)) tt := fun tt kk => pre160 _ (by
    show Steps pg.tables ev below (T150.setTop (mkF mi 34 #[.val (.ref g), .val (.ref a), .val (.ref m), .val (.ref b), .val (.ref v)] [])) _
    refine st159 _ ?_
    show Steps pg.tables ev below (T159.setTop (mkF mi 36 #[.val (.ref g), .val (.ref a), .val (.ref m), .val (.ref b), .val (.ref v)] [(.ref a159)])) _
    refine XS.aloadN X159.here hx rfl (hb hby d_prog_9_method_1_code_36) rfl rfl ?_
    refine XS.aloadN X159.here hx rfl (hb hby d_prog_9_method_1_code_37) rfl rfl ?_
    refine XS.aloadN X159.here hx rfl (hb hby d_prog_9_method_1_code_38) rfl rfl ?_
    exact kk)
  obtain ⟨v175, _, ⟨T175, L175, k175, n175⟩, -, X175, s175, gr175, ⟨Lc175, hQ175, l175, y175, z175, c175, -⟩, st175⟩ := callSS X159 hx (y := mn16) hown (mvT hZ (wd51 hw)) (mvT hZ (wd52 hw)) (mvT hZ (wd32 hw)) (mvT hZ (wd53 hw)) (by decide) (own_backSL (W := 0) (LP := fun vm => Lit (Z.setVm vm) "com/example/beanloft/beanloft/naming/GlobalName" 125 ly0_129 ∧ Lit (Z.setVm vm) "com/example/beanloft/beanloft/naming/GlobalName" 131 ly1_129) (LQ := fun vm h => True) (fun hW => ⟨Lit.stays (s := sb) lt167 hW, Lit.stays (s := sb) lt168 hW⟩) (rm_seg1L la Z a0 hw [] a159 b m b tb ly0_129 lu0_129 ly1_129 lu1_129 cb0 zc h159 n0 O171 f172 f173 f174 D0_ (h47_cb0 : ¬ ((cb0.toInt8.toInt32) = (47 : Int32))) (h33_cb0 : ¬ ((cb0.toInt8.toInt32) = (33 : Int32))) (hzc : ¬ (zc = (0 : Int32)))) hZ (wd53 hw) (wd32 hw) (by decide) (by decide) hEL C170.1) (g := (mkF mi 39 #[.val (.ref g), .val (.ref a), .val (.ref m), .val (.ref b), .val (.ref v)] [(.ref b), (.ref m), (.ref b), (.ref a159)])) rfl (by rw [hml]; rfl) (argsL := [(.ref a159), (.ref b), (.ref m), (.ref b)]) (rest := []) (lenOf pd_12 rfl) rfl (by show 2 * 0 + _ ≤ _; exact Nat.le_of_eq rfl) (hb hby d_prog_9_method_1_code_39) (fun _ _ => ⟨rfl, e159, (by decide : 14 + 0 ≤ _), (by decide : 252 + 0 ≤ _)⟩)
  dsimp only [Pt.U, Pt.locs, Pt.cells, Pt.slots] at X175 s175 gr175 l175 y175 z175 c175 st175 hQ175
  subst l175 y175 z175
  have lt177 := Lit.stays (s := sb) lt164 s175.1
  have lt178 := Lit.stays (s := sb) lt165 s175.1
  have lt179 := Lit.stays (s := sb) lt166 s175.1
  have lt180 := Lit.stays (s := sb) lt167 s175.1
  have lt181 := Lit.stays (s := sb) lt168 s175.1
  have lt182 := Lit.stays (s := sb) lt169 s175.1
  have lt183 := Lit.stays (s := sb) lt163 s175.1
  obtain ⟨X175, hS, hZ, hown⟩ := rebS hS (show _ ≤ T159.heap.size by rw [e159]; exact hk) X175 s175 gr175 hZ hown
  have hk : T175.heap.size ≤ T175.heap.size := Nat.le_refl _
  obtain ⟨rfl, Nq175, Kq175⟩ := hQ175
  have N175 := Fr.app N150 Nq175
  have C184 := CHr.trans C170 c175
  have pre186 : ∀ tt, Steps pg.tables ev below (T175.setTop (mkF mi 42 #[.val (.ref g), .val (.ref a), .val (.ref m), .val (.ref b), .val (.ref v)] [])) tt → Steps pg.tables ev below (s₁.setTop (entryFrame mi #[(.ref g), (.ref a), (.ref m), (.ref b), (.ref v)] 5)) tt := fun tt kk => pre176 _ (by
    show Steps pg.tables ev below (T159.setTop (mkF mi 39 #[.val (.ref g), .val (.ref a), .val (.ref m), .val (.ref b), .val (.ref v)] [(.ref b), (.ref m), (.ref b), (.ref a159)])) _
    refine st175.trans ?_
    exact kk)
  obtain ⟨a185, T185, h185, k185, X185, e185, E185, hs187, hk188, hZ, hown, c185, lt189, st185⟩ := ldcOH (s := sb.setVm T175.vm) X175 hx hZ hown (wd98 hw) (own_wS hw) rfl ((State.WarmedH.refl (sb.setVm T175.vm)).since 0) (Nat.zero_le _) hEL C184.1 (g := (mkF mi 42 #[.val (.ref g), .val (.ref a), .val (.ref m), .val (.ref b), .val (.ref v)] [])) rfl (hb hby d_prog_9_method_1_code_42) (n := 36) (by decide) (by decide) (by decide) (by decide)
  have X185 := own_restand X185
  have hS := hS.trans (⟨hs187.1, hs187.2.mono hk188⟩ : (sb.setVm T175.vm).Since T185.vm h185.size) (Nat.le_trans hk E185.1)
  have hk : h185.size ≤ h185.size := Nat.le_refl _
  have lt190 := Lit.stays (s := sb) lt177 hs187.1
  have lt191 := Lit.stays (s := sb) lt178 hs187.1
  have lt192 := Lit.stays (s := sb) lt179 hs187.1
  have lt193 := Lit.stays (s := sb) lt180 hs187.1
  have lt194 := Lit.stays (s := sb) lt181 hs187.1
  have lt195 := Lit.stays (s := sb) lt182 hs187.1
  have lt196 := Lit.stays (s := sb) lt183 hs187.1
  have C197 := CHr.trans C184 c185
  have O198 : Old Z n0 h185 := ((O171.keep Kq175 all0).ext E185)
  have f199 : LStr Z h185 v tv ([cv0] : List Int32) := (((((((((P8_.ext E102).ext E110).ext E119).keep Kq129 nin0 nin0).ext E135).keep Kq150 nin0 nin0).ext E159).keep Kq175 nin0 nin0).ext E185)
  have f200 : LStr Z h185 ly0_129 lu0_129 ([(47 : Int32)] : List Int32) := ((f173.keep Kq175 nin0 nin0).ext E185)
  have f201 : LStr Z h185 ly1_129 lu1_129 ([(33 : Int32)] : List Int32) := ((f174.keep Kq175 nin0 nin0).ext E185)
  have pre203 : ∀ tt, Steps pg.tables ev below (T185.setTop (mkF mi 48 #[.val (.ref g), .val (.ref a), .val (.ref m), .val (.ref b), .val (.ref v)] [(.ref b), (.ref m), (.ref v), (.ref a185)])) tt → Steps pg.tables ev below (s₁.setTop (entryFrame mi #[(.ref g), (.ref a), (.ref m), (.ref b), (.ref v)] 5)) tt := fun tt kk => pre186 _ (by
    show Steps pg.tables ev below (T175.setTop (mkF mi 42 #[.val (.ref g), .val (.ref a), .val (.ref m), .val (.ref b), .val (.ref v)] [])) _
    refine st185 _ ?_
    show Steps pg.tables ev below (T185.setTop (mkF mi 44 #[.val (.ref g), .val (.ref a), .val (.ref m), .val (.ref b), .val (.ref v)] [(.ref a185)])) _
    refine XS.aload X185.here hx rfl (hb hby d_prog_9_method_1_code_44) rfl rfl ?_
    refine XS.aloadN X185.here hx rfl (hb hby d_prog_9_method_1_code_46) rfl rfl ?_
    refine XS.aloadN X185.here hx rfl (hb hby d_prog_9_method_1_code_47) rfl rfl ?_
    exact kk)
  obtain ⟨v202, _, ⟨T202, L202, k202, n202⟩, -, X202, s202, gr202, ⟨Lc202, hQ202, l202, y202, z202, c202, -⟩, st202⟩ := callSS X185 hx (y := mn16) hown (mvT hZ (wd51 hw)) (mvT hZ (wd52 hw)) (mvT hZ (wd32 hw)) (mvT hZ (wd53 hw)) (by decide) (own_backSL (W := 0) (LP := fun vm => Lit (Z.setVm vm) "com/example/beanloft/beanloft/naming/GlobalName" 125 ly0_129 ∧ Lit (Z.setVm vm) "com/example/beanloft/beanloft/naming/GlobalName" 131 ly1_129) (LQ := fun vm h => True) (fun hW => ⟨Lit.stays (s := sb) lt193 hW, Lit.stays (s := sb) lt194 hW⟩) (rm_seg1L la Z a0 hw [] a185 v m b tv ly0_129 lu0_129 ly1_129 lu1_129 cv0 zc h185 n0 O198 f199 f200 f201 D0_ (h47_cv0 : ¬ ((cv0.toInt8.toInt32) = (47 : Int32))) (h33_cv0 : ¬ ((cv0.toInt8.toInt32) = (33 : Int32))) (hzc : ¬ (zc = (0 : Int32)))) hZ (wd53 hw) (wd32 hw) (by decide) (by decide) hEL C197.1) (g := (mkF mi 48 #[.val (.ref g), .val (.ref a), .val (.ref m), .val (.ref b), .val (.ref v)] [(.ref b), (.ref m), (.ref v), (.ref a185)])) rfl (by rw [hml]; rfl) (argsL := [(.ref a185), (.ref v), (.ref m), (.ref b)]) (rest := []) (lenOf pd_12 rfl) rfl (by show 2 * 0 + _ ≤ _; exact Nat.le_of_eq rfl) (hb hby d_prog_9_method_1_code_48) (fun _ _ => ⟨rfl, e185, (by decide : 16 + 0 ≤ _), (by decide : 292 + 0 ≤ _)⟩)
  dsimp only [Pt.U, Pt.locs, Pt.cells, Pt.slots] at X202 s202 gr202 l202 y202 z202 c202 st202 hQ202
  subst l202 y202 z202
  have lt204 := Lit.stays (s := sb) lt190 s202.1
  have lt205 := Lit.stays (s := sb) lt191 s202.1
  have lt206 := Lit.stays (s := sb) lt192 s202.1
  have lt207 := Lit.stays (s := sb) lt193 s202.1
  have lt208 := Lit.stays (s := sb) lt194 s202.1
  have lt209 := Lit.stays (s := sb) lt195 s202.1
  have lt210 := Lit.stays (s := sb) lt196 s202.1
  have lt211 := Lit.stays (s := sb) lt189 s202.1
  obtain ⟨X202, hS, hZ, hown⟩ := rebS hS (show _ ≤ T185.heap.size by rw [e185]; exact hk) X202 s202 gr202 hZ hown
  have hk : T202.heap.size ≤ T202.heap.size := Nat.le_refl _
  obtain ⟨rfl, Nq202, Kq202⟩ := hQ202
  have N202 := Fr.app N175 Nq202
  have C212 := CHr.trans C197 c202
  have f213 : Exa Z T202.heap g "com/example/beanloft/beanloft/naming/GlobalName" := ((((((((((P0_.ext E102).ext E110).ext E119).keep Kq129).ext E135).keep Kq150).ext E159).keep Kq175).ext E185).keep Kq202)
  have f214 : Fld Z T202.heap g "com/example/beanloft/beanloft/naming/GlobalName" "appName" "Ljava/lang/String;" .null := ((((((((((P1_.ext E102).ext E110).ext E119).keep Kq129 nin0).ext E135).keep Kq150 nin0).ext E159).keep Kq175 nin0).ext E185).keep Kq202 nin0)
  obtain ⟨T215, h215, X215, e215, W215, st215⟩ := putF X202 hx hZ hown (host := "") (Or.inl (wd99 hw)) Via.refl rfl f214 f213 (Or.inr ⟨(wd100 hw), rfl, hnm⟩) (wd31 hw) (ty := (.object "java/lang/String")) (by decide) rfl rfl (g := (mkF mi 53 #[.val (.ref g), .val (.ref a), .val (.ref m), .val (.ref b), .val (.ref v)] [(.ref a), (.ref g)])) rfl rfl (hb hby d_prog_9_method_1_code_53)
  have N215 := Fr.snoc X215 N202 g_g
  have c216 := CHr.keep (Keep.of_wr W215) (sfS (Safe.exa hZ.alike f213 (by decide) (by decide)) sf0) C212.1
  have C217 := CHr.trans C212 c216
  have f218 : Fld Z h215 g "com/example/beanloft/beanloft/naming/GlobalName" "appName" "Ljava/lang/String;" (.ref a) := f214.same W215
  have f219 : Exa Z h215 g "com/example/beanloft/beanloft/naming/GlobalName" := (f213.keep (Keep.of_wr W215))
  have f220 : Fld Z h215 g "com/example/beanloft/beanloft/naming/GlobalName" "moduleName" "Ljava/lang/String;" .null := (((((((((((P2_.ext E102).ext E110).ext E119).keep Kq129 nin0).ext E135).keep Kq150 nin0).ext E159).keep Kq175 nin0).ext E185).keep Kq202 nin0).other W215 (Or.inr (slot_ne (Or.inr (wd102 hw)) (Or.inr (wd100 hw)) (by decide) (t := (.object "java/lang/String")) (t' := (.object "java/lang/String")) (by decide) (by decide))))
  obtain ⟨T221, h221, X221, e221, W221, st221⟩ := putF X215 hx hZ hown (host := "") (Or.inl (wd101 hw)) Via.refl e215 f220 f219 (Or.inr ⟨(wd102 hw), rfl, hnm⟩) (wd31 hw) (ty := (.object "java/lang/String")) (by decide) rfl rfl (g := (mkF mi 58 #[.val (.ref g), .val (.ref a), .val (.ref m), .val (.ref b), .val (.ref v)] [(.ref m), (.ref g)])) rfl rfl (hb hby d_prog_9_method_1_code_58)
  have N221 := Fr.snoc X221 N215 g_g
  have c222 := CHr.keep (Keep.of_wr W221) (sfS (Safe.exa hZ.alike f219 (by decide) (by decide)) sf0) C217.1
  have C223 := CHr.trans C217 c222
  have f224 : Fld Z h221 g "com/example/beanloft/beanloft/naming/GlobalName" "moduleName" "Ljava/lang/String;" (.ref m) := f220.same W221
  have f225 : Exa Z h221 g "com/example/beanloft/beanloft/naming/GlobalName" := (f219.keep (Keep.of_wr W221))
  have f226 : Fld Z h221 g "com/example/beanloft/beanloft/naming/GlobalName" "beanName" "Ljava/lang/String;" .null := ((((((((((((P3_.ext E102).ext E110).ext E119).keep Kq129 nin0).ext E135).keep Kq150 nin0).ext E159).keep Kq175 nin0).ext E185).keep Kq202 nin0).other W215 (Or.inr (slot_ne (Or.inr (wd104 hw)) (Or.inr (wd100 hw)) (by decide) (t := (.object "java/lang/String")) (t' := (.object "java/lang/String")) (by decide) (by decide)))).other W221 (Or.inr (slot_ne (Or.inr (wd104 hw)) (Or.inr (wd102 hw)) (by decide) (t := (.object "java/lang/String")) (t' := (.object "java/lang/String")) (by decide) (by decide))))
  obtain ⟨T227, h227, X227, e227, W227, st227⟩ := putF X221 hx hZ hown (host := "") (Or.inl (wd103 hw)) Via.refl e221 f226 f225 (Or.inr ⟨(wd104 hw), rfl, hnm⟩) (wd31 hw) (ty := (.object "java/lang/String")) (by decide) rfl rfl (g := (mkF mi 63 #[.val (.ref g), .val (.ref a), .val (.ref m), .val (.ref b), .val (.ref v)] [(.ref b), (.ref g)])) rfl rfl (hb hby d_prog_9_method_1_code_63)
  have N227 := Fr.snoc X227 N221 g_g
  have c228 := CHr.keep (Keep.of_wr W227) (sfS (Safe.exa hZ.alike f225 (by decide) (by decide)) sf0) C223.1
  have C229 := CHr.trans C223 c228
  have f230 : Fld Z h227 g "com/example/beanloft/beanloft/naming/GlobalName" "beanName" "Ljava/lang/String;" (.ref b) := f226.same W227
  have f231 : Exa Z h227 g "com/example/beanloft/beanloft/naming/GlobalName" := (f225.keep (Keep.of_wr W227))
  have f232 : Fld Z h227 g "com/example/beanloft/beanloft/naming/GlobalName" "viewName" "Ljava/lang/String;" .null := (((((((((((((P4_.ext E102).ext E110).ext E119).keep Kq129 nin0).ext E135).keep Kq150 nin0).ext E159).keep Kq175 nin0).ext E185).keep Kq202 nin0).other W215 (Or.inr (slot_ne (Or.inr (wd106 hw)) (Or.inr (wd100 hw)) (by decide) (t := (.object "java/lang/String")) (t' := (.object "java/lang/String")) (by decide) (by decide)))).other W221 (Or.inr (slot_ne (Or.inr (wd106 hw)) (Or.inr (wd102 hw)) (by decide) (t := (.object "java/lang/String")) (t' := (.object "java/lang/String")) (by decide) (by decide)))).other W227 (Or.inr (slot_ne (Or.inr (wd106 hw)) (Or.inr (wd104 hw)) (by decide) (t := (.object "java/lang/String")) (t' := (.object "java/lang/String")) (by decide) (by decide))))
  obtain ⟨T233, h233, X233, e233, W233, st233⟩ := putF X227 hx hZ hown (host := "") (Or.inl (wd105 hw)) Via.refl e227 f232 f231 (Or.inr ⟨(wd106 hw), rfl, hnm⟩) (wd31 hw) (ty := (.object "java/lang/String")) (by decide) rfl rfl (g := (mkF mi 69 #[.val (.ref g), .val (.ref a), .val (.ref m), .val (.ref b), .val (.ref v)] [(.ref v), (.ref g)])) rfl rfl (hb hby d_prog_9_method_1_code_69)
  have N233 := Fr.snoc X233 N227 g_g
  have c234 := CHr.keep (Keep.of_wr W233) (sfS (Safe.exa hZ.alike f231 (by decide) (by decide)) sf0) C229.1
  have C235 := CHr.trans C229 c234
  have f236 : Fld Z h233 g "com/example/beanloft/beanloft/naming/GlobalName" "viewName" "Ljava/lang/String;" (.ref v) := f232.same W233
  have f237 : Exa Z h233 g "com/example/beanloft/beanloft/naming/GlobalName" := (f231.keep (Keep.of_wr W233))
  have f238 : Fld Z h233 g "com/example/beanloft/beanloft/naming/GlobalName" "appName" "Ljava/lang/String;" (.ref a) := (((f218.other W221 (Or.inr (slot_ne (Or.inr (wd100 hw)) (Or.inr (wd102 hw)) (by decide) (t := (.object "java/lang/String")) (t' := (.object "java/lang/String")) (by decide) (by decide)))).other W227 (Or.inr (slot_ne (Or.inr (wd100 hw)) (Or.inr (wd104 hw)) (by decide) (t := (.object "java/lang/String")) (t' := (.object "java/lang/String")) (by decide) (by decide)))).other W233 (Or.inr (slot_ne (Or.inr (wd100 hw)) (Or.inr (wd106 hw)) (by decide) (t := (.object "java/lang/String")) (t' := (.object "java/lang/String")) (by decide) (by decide))))
  have f239 : Fld Z h233 g "com/example/beanloft/beanloft/naming/GlobalName" "moduleName" "Ljava/lang/String;" (.ref m) := ((f224.other W227 (Or.inr (slot_ne (Or.inr (wd102 hw)) (Or.inr (wd104 hw)) (by decide) (t := (.object "java/lang/String")) (t' := (.object "java/lang/String")) (by decide) (by decide)))).other W233 (Or.inr (slot_ne (Or.inr (wd102 hw)) (Or.inr (wd106 hw)) (by decide) (t := (.object "java/lang/String")) (t' := (.object "java/lang/String")) (by decide) (by decide))))
  have f240 : Fld Z h233 g "com/example/beanloft/beanloft/naming/GlobalName" "beanName" "Ljava/lang/String;" (.ref b) := (f230.other W233 (Or.inr (slot_ne (Or.inr (wd104 hw)) (Or.inr (wd106 hw)) (by decide) (t := (.object "java/lang/String")) (t' := (.object "java/lang/String")) (by decide) (by decide))))
  obtain ⟨fs, hr, hrun, hended, hWe⟩ := X233.leaveW hS (show _ ≤ T233.heap.size by rw [e233]; exact (Nat.le_trans hk (Nat.le_trans (Nat.le_trans (Nat.le_trans (Keep.of_wr W215).1 (Keep.of_wr W221).1) (Keep.of_wr W227).1) (Keep.of_wr W233).1))) (v := none) (fun _ => rfl)
  refine ⟨_, _, pre203 _ ?_, hrun, hended, _, _, rfl, ?_, ?_, hWe.1, hWe.2.1, hWe.2.2.1, hWe.2.2.2.mono (by decide) (by decide)⟩
  · show Steps pg.tables ev below (T185.setTop (mkF mi 48 #[.val (.ref g), .val (.ref a), .val (.ref m), .val (.ref b), .val (.ref v)] [(.ref b), (.ref m), (.ref v), (.ref a185)])) _
    refine st202.trans ?_
    show Steps pg.tables ev below (T202.setTop (mkF mi 51 #[.val (.ref g), .val (.ref a), .val (.ref m), .val (.ref b), .val (.ref v)] [])) _
    refine XS.aloadN X202.here hx rfl (hb hby d_prog_9_method_1_code_51) rfl rfl ?_
    refine XS.aloadN X202.here hx rfl (hb hby d_prog_9_method_1_code_52) rfl rfl ?_
    show Steps pg.tables ev below (T202.setTop (mkF mi 53 #[.val (.ref g), .val (.ref a), .val (.ref m), .val (.ref b), .val (.ref v)] [(.ref a), (.ref g)])) _
    refine st215 _ ?_
    show Steps pg.tables ev below (T215.setTop (mkF mi 56 #[.val (.ref g), .val (.ref a), .val (.ref m), .val (.ref b), .val (.ref v)] [])) _
    refine XS.aloadN X215.here hx rfl (hb hby d_prog_9_method_1_code_56) rfl rfl ?_
    refine XS.aloadN X215.here hx rfl (hb hby d_prog_9_method_1_code_57) rfl rfl ?_
    show Steps pg.tables ev below (T215.setTop (mkF mi 58 #[.val (.ref g), .val (.ref a), .val (.ref m), .val (.ref b), .val (.ref v)] [(.ref m), (.ref g)])) _
    refine st221 _ ?_
    show Steps pg.tables ev below (T221.setTop (mkF mi 61 #[.val (.ref g), .val (.ref a), .val (.ref m), .val (.ref b), .val (.ref v)] [])) _
    refine XS.aloadN X221.here hx rfl (hb hby d_prog_9_method_1_code_61) rfl rfl ?_
    refine XS.aloadN X221.here hx rfl (hb hby d_prog_9_method_1_code_62) rfl rfl ?_
    show Steps pg.tables ev below (T221.setTop (mkF mi 63 #[.val (.ref g), .val (.ref a), .val (.ref m), .val (.ref b), .val (.ref v)] [(.ref b), (.ref g)])) _
    refine st227 _ ?_
    show Steps pg.tables ev below (T227.setTop (mkF mi 66 #[.val (.ref g), .val (.ref a), .val (.ref m), .val (.ref b), .val (.ref v)] [])) _
    refine XS.aloadN X227.here hx rfl (hb hby d_prog_9_method_1_code_66) rfl rfl ?_
    refine XS.aload X227.here hx rfl (hb hby d_prog_9_method_1_code_67) rfl rfl ?_
    show Steps pg.tables ev below (T227.setTop (mkF mi 69 #[.val (.ref g), .val (.ref a), .val (.ref m), .val (.ref b), .val (.ref v)] [(.ref v), (.ref g)])) _
    refine st233 _ ?_
    show Steps pg.tables ev below (T233.setTop (mkF mi 72 #[.val (.ref g), .val (.ref a), .val (.ref m), .val (.ref b), .val (.ref v)] [])) _
    exact X233.returnOut hx Bd.returns (hb hby d_prog_9_method_1_code_72) hr
  · show Q_gin1111 Z g a ta ca0 m tm cm0 b tb cb0 v tv cv0 zc hE n0 _ T233.heap _
    rw [e233]
    exact ⟨rfl, N233, (((((((((((((((Keep.refl hE [g]).ext E102).ext E110).ext E119).trans Kq129 all0).ext E135).trans Kq150 all0).ext E159).trans Kq175 all0).ext E185).trans Kq202 all0).trans (Keep.of_wr W215) (allS (Or.inl (List.mem_of_getElem? (i := 0) rfl)) all0)).trans (Keep.of_wr W221) (allS (Or.inl (List.mem_of_getElem? (i := 0) rfl)) all0)).trans (Keep.of_wr W227) (allS (Or.inl (List.mem_of_getElem? (i := 0) rfl)) all0)).trans (Keep.of_wr W233) (allS (Or.inl (List.mem_of_getElem? (i := 0) rfl)) all0)), f237, f238, f239, f240, f236⟩
  · show CHr Z ELs sb.vm sb.heap T233.vm T233.heap
    rw [hh, e233]
    exact CHr.trans C235 (CHv.at X233 hZ hEL C235.1)
theorem d_jdk_31_method_10_code_0 : decode jdk_31_method_10_code 0 = .ok (.aload_n 0, 1) := by decide +kernel
theorem d_jdk_31_method_10_code_1 : decode jdk_31_method_10_code 1 = .ok (.ifnonnull 11, 3) := by decide +kernel
theorem d_jdk_31_method_10_code_12 : decode jdk_31_method_10_code 12 = .ok (.aload_n 0, 1) := by decide +kernel
theorem d_jdk_31_method_10_code_13 : decode jdk_31_method_10_code 13 = .ok (.areturn, 1) := by decide +kernel
theorem ef_rnn1 (mi : MethodId) (a : Addr) : entryFrame mi #[(.ref a)] 1 = mkF mi 0 #[.val (.ref a)] [] := by first | (simp [entryFrame, mkF, argsToLocals, Value.category]; done) | rfl
def Q_rnn1 (Z : State) (a : Addr) (hE : Heap) (n0 : Nat) (vv : Option Value) (hh : Heap) (LL : List Loc) : Prop := (vv = some (.ref a)) ∧ (Fr n0 LL) ∧ (hh = hE)
set_option maxRecDepth 65536 in
set_option maxHeartbeats 40000000 in
theorem rm_rnn1 (la : Launch) (Z : State) (a0 : Array Value) (hw : ∀ d ∈ tables_1, d.before a0 Z = true) (ws : List Jvm.Cond) (a : Addr) (hE : Heap) (n0 : Nat) (O : Old Z n0 hE) :
    MetFree la mn18 (head1 (Jvm.Cond.code mn18 jdk_31_method_10_code 1 (some (.object "java/lang/Object")) :: ws) ({ frames := 0, cells := 0, slots := 0, locals := 0 } : Room)) (fun aa UU => aa = #[(.ref a)] ∧ Z.Warmed39 UU.vm ∧ UU.heap = hE) (fun _ _ _ _ _ => True) (fun _ UU oo UV => ∃ vv LL, oo = .returned vv ∧ Q_rnn1 Z a hE n0 vv UV.heap LL ∧ FrameEnd UU oo UV LL ({ frames := 0, cells := 0, slots := 0, locals := 0 } : Room).cells ({ frames := 0, cells := 0, slots := 0, locals := 0 } : Room).slots) := by
  refine MetFree.of_bodySF (plainFor_of_name pn_java_util_Objects) hisR ?_
  intro pg ev sb mi gs below me cd s₁ Bd hml0 hPt hKt
  obtain ⟨rfl, hZ, hh⟩ := hPt
  have hx := Bd.exec
  have hby := Bd.bytes
  have hml : cd.maxLocals = 1 := hml0
  have hown : sb.vm.findClass "java/util/Objects" = some mi.cls := findClass_of_methodNamed Bd.named
  have hnm := (name_of_methodNamed Bd.named Bd.method).1
  have X0 : Stand pg la ev ({ frames := 0, cells := 0, slots := 0, locals := 0 } : Room) sb mi #[(.ref a)] below me cd s₁ [] 0 0 := Stand.of_body Bd
  have eE : s₁.heap = hE := by rw [← hh, Bd.state]; rfl
  have N0 := Fr.nil n0
  have pre0 : ∀ tt, Steps pg.tables ev below (s₁.setTop (mkF mi 0 #[.val (.ref a)] [])) tt → Steps pg.tables ev below (s₁.setTop (entryFrame mi #[(.ref a)] 1)) tt := fun tt kk => castTop (ef_rnn1 mi a) kk
  obtain ⟨fs, hr, hrun, hended, hW, hsame⟩ := X0.leave (v := some (.ref a)) (fun hq => by rw [Bd.returns] at hq; cases hq)
  refine ⟨_, _, pre0 _ ?_, hrun, hended, _, _, rfl, ?_, ⟨_, rfl⟩, hW, hsame.mono (by decide) (by decide)⟩
  · show Steps pg.tables ev below (s₁.setTop (mkF mi 0 #[.val (.ref a)] [])) _
    refine XS.aloadN X0.here hx rfl (hb hby d_jdk_31_method_10_code_0) rfl rfl ?_
    refine XS.ifnonnullYes X0.here hx rfl (pc0 := 1) (pc' := 12) rfl (hb hby d_jdk_31_method_10_code_1) rfl (by decide) (by decide) ?_
    refine XS.aloadN X0.here hx rfl (hb hby d_jdk_31_method_10_code_12) rfl rfl ?_
    show Steps pg.tables ev below (s₁.setTop (mkF mi 13 #[.val (.ref a)] [(.ref a)])) _
    jvm_step X0.here [X0.here.top, hx, (hb hby d_jdk_31_method_10_code_13), X0.method', Bd.returns, Value.isRef, FieldType.isReference]
    first | (intro acts; rw [hr _ acts rfl rfl rfl]) | rw [hr _ _ rfl rfl rfl]
    exact Steps.refl _
  · show Q_rnn1 Z a hE n0 _ s₁.heap _
    rw [eE]
    exact ⟨rfl, N0, rfl⟩
theorem d_jdk_22_method_1_code_0 : decode jdk_22_method_1_code 0 = .ok (.aload_n 0, 1) := by decide +kernel
theorem d_jdk_22_method_1_code_1 : decode jdk_22_method_1_code 1 = .ok (.invokespecial 1, 3) := by decide +kernel
theorem d_jdk_22_method_1_code_4 : decode jdk_22_method_1_code 4 = .ok (.return_, 1) := by decide +kernel
theorem pn_java_util_AbstractCollection : plainName "java/util/AbstractCollection" = true := by first | (simp [plainName, overriddenIn]; done) | decide +kernel
theorem ef_ac (mi : MethodId) (a : Addr) : entryFrame mi #[(.ref a)] 1 = mkF mi 0 #[.val (.ref a)] [] := by first | (simp [entryFrame, mkF, argsToLocals, Value.category]; done) | rfl
def Q_ac (Z : State) (a : Addr) (hE : Heap) (n0 : Nat) (vv : Option Value) (hh : Heap) (LL : List Loc) : Prop := (vv = none) ∧ (Fr n0 LL) ∧ (hh = hE)
set_option maxRecDepth 65536 in
set_option maxHeartbeats 40000000 in
theorem rm_ac (la : Launch) (Z : State) (a0 : Array Value) (hw : ∀ d ∈ tables_1, d.before a0 Z = true) (ws : List Jvm.Cond) (a : Addr) (hE : Heap) (n0 : Nat) (O : Old Z n0 hE) :
    MetFree la mn19 (head1 (Jvm.Cond.code mn19 jdk_22_method_1_code 1 none :: ws) ({ frames := 1, cells := 0, slots := 0, locals := 12 } : Room)) (fun aa UU => aa = #[(.ref a)] ∧ Z.Warmed39 UU.vm ∧ UU.heap = hE) (fun _ _ _ _ _ => True) (fun _ UU oo UV => ∃ vv LL, oo = .returned vv ∧ Q_ac Z a hE n0 vv UV.heap LL ∧ FrameEnd UU oo UV LL ({ frames := 1, cells := 0, slots := 0, locals := 12 } : Room).cells ({ frames := 1, cells := 0, slots := 0, locals := 12 } : Room).slots) := by
  refine MetFree.of_bodySF (plainFor_of_name pn_java_util_AbstractCollection) hisR ?_
  intro pg ev sb mi gs below me cd s₁ Bd hml0 hPt hKt
  obtain ⟨rfl, hZ, hh⟩ := hPt
  have hx := Bd.exec
  have hby := Bd.bytes
  have hml : cd.maxLocals = 1 := hml0
  have hown : sb.vm.findClass "java/util/AbstractCollection" = some mi.cls := findClass_of_methodNamed Bd.named
  have hnm := (name_of_methodNamed Bd.named Bd.method).1
  have X0 : Stand pg la ev ({ frames := 1, cells := 0, slots := 0, locals := 12 } : Room) sb mi #[(.ref a)] below me cd s₁ [] 0 0 := Stand.of_body Bd
  have eE : s₁.heap = hE := by rw [← hh, Bd.state]; rfl
  have N0 := Fr.nil n0
  have pre0 : ∀ tt, Steps pg.tables ev below (s₁.setTop (mkF mi 0 #[.val (.ref a)] [])) tt → Steps pg.tables ev below (s₁.setTop (entryFrame mi #[(.ref a)] 1)) tt := fun tt kk => castTop (ef_ac mi a) kk
  obtain ⟨T101, X101, e101, st101⟩ := initO X0 hx hZ hown (wd141 hw) (wd24 hw) (wd25 hw) eE (g := (mkF mi 1 #[.val (.ref a)] [(.ref a)])) rfl (by rw [hml]; rfl) rfl (hb hby d_jdk_22_method_1_code_1) (by decide) (W := 0) (by show 2 * 0 + _ ≤ _; exact Nat.le_of_eq rfl) (by decide)
  obtain ⟨fs, hr, hrun, hended, hW, hsame⟩ := X101.leave (v := none) (fun _ => rfl)
  refine ⟨_, _, pre0 _ ?_, hrun, hended, _, _, rfl, ?_, ⟨_, rfl⟩, hW, hsame.mono (by decide) (by decide)⟩
  · show Steps pg.tables ev below (s₁.setTop (mkF mi 0 #[.val (.ref a)] [])) _
    refine XS.aloadN X0.here hx rfl (hb hby d_jdk_22_method_1_code_0) rfl rfl ?_
    show Steps pg.tables ev below (s₁.setTop (mkF mi 1 #[.val (.ref a)] [(.ref a)])) _
    refine st101 _ ?_
    show Steps pg.tables ev below (T101.setTop (mkF mi 4 #[.val (.ref a)] [])) _
    exact X101.returnOut hx Bd.returns (hb hby d_jdk_22_method_1_code_4) hr
  · show Q_ac Z a hE n0 _ T101.heap _
    rw [e101]
    exact ⟨rfl, N0, rfl⟩
theorem d_jdk_47_method_1_code_0 : decode jdk_47_method_1_code 0 = .ok (.aload_n 0, 1) := by decide +kernel
theorem d_jdk_47_method_1_code_1 : decode jdk_47_method_1_code 1 = .ok (.invokespecial 1, 3) := by decide +kernel
theorem d_jdk_47_method_1_code_4 : decode jdk_47_method_1_code 4 = .ok (.return_, 1) := by decide +kernel
theorem pn_java_util_ImmutableCollections_AbstractImmutableCollection : plainName "java/util/ImmutableCollections$AbstractImmutableCollection" = true := by first | (simp [plainName, overriddenIn]; done) | decide +kernel
theorem ef_aic (mi : MethodId) (a : Addr) : entryFrame mi #[(.ref a)] 1 = mkF mi 0 #[.val (.ref a)] [] := by first | (simp [entryFrame, mkF, argsToLocals, Value.category]; done) | rfl
def Q_aic (Z : State) (a : Addr) (hE : Heap) (n0 : Nat) (vv : Option Value) (hh : Heap) (LL : List Loc) : Prop := (vv = none) ∧ (Fr n0 LL) ∧ (hh = hE)
set_option maxRecDepth 65536 in
set_option maxHeartbeats 40000000 in
theorem rm_aic (la : Launch) (Z : State) (a0 : Array Value) (hw : ∀ d ∈ tables_1, d.before a0 Z = true) (ws : List Jvm.Cond) (a : Addr) (hE : Heap) (n0 : Nat) (O : Old Z n0 hE) :
    MetFree la mn20 (head1 (Jvm.Cond.code mn20 jdk_47_method_1_code 1 none :: ws) ({ frames := 2, cells := 0, slots := 0, locals := 24 } : Room)) (fun aa UU => aa = #[(.ref a)] ∧ Z.Warmed39 UU.vm ∧ UU.heap = hE) (fun _ _ _ _ _ => True) (fun _ UU oo UV => ∃ vv LL, oo = .returned vv ∧ Q_aic Z a hE n0 vv UV.heap LL ∧ FrameEnd UU oo UV LL ({ frames := 2, cells := 0, slots := 0, locals := 24 } : Room).cells ({ frames := 2, cells := 0, slots := 0, locals := 24 } : Room).slots) := by
  refine MetFree.of_bodySF (plainFor_of_name pn_java_util_ImmutableCollections_AbstractImmutableCollection) hisR ?_
  intro pg ev sb mi gs below me cd s₁ Bd hml0 hPt hKt
  obtain ⟨rfl, hZ, hh⟩ := hPt
  have hx := Bd.exec
  have hby := Bd.bytes
  have hml : cd.maxLocals = 1 := hml0
  have hown : sb.vm.findClass "java/util/ImmutableCollections$AbstractImmutableCollection" = some mi.cls := findClass_of_methodNamed Bd.named
  have hnm := (name_of_methodNamed Bd.named Bd.method).1
  have X0 : Stand pg la ev ({ frames := 2, cells := 0, slots := 0, locals := 24 } : Room) sb mi #[(.ref a)] below me cd s₁ [] 0 0 := Stand.of_body Bd
  have eE : s₁.heap = hE := by rw [← hh, Bd.state]; rfl
  have N0 := Fr.nil n0
  have pre0 : ∀ tt, Steps pg.tables ev below (s₁.setTop (mkF mi 0 #[.val (.ref a)] [])) tt → Steps pg.tables ev below (s₁.setTop (entryFrame mi #[(.ref a)] 1)) tt := fun tt kk => castTop (ef_aic mi a) kk
  obtain ⟨v101, _, ⟨T101, L101, k101, n101⟩, -, X101, ⟨Lc101, hQ101, l101, y101, z101⟩, st101⟩ := X0.specialBack hx (y := mn19) rfl hown (mvT hZ (wd135 hw)) (mvT hZ (wd136 hw)) (mvT hZ (wd140 hw)) (by decide) (backOf (W := 0) (rm_ac la Z a0 hw [] a hE n0 O) hZ (wd140 hw) (wd139 hw) (by decide) (by decide)) (g := (mkF mi 1 #[.val (.ref a)] [(.ref a)])) rfl (by rw [hml]; rfl) (Steps.refl _) (a := a) (argsL := []) (rest := []) (lenOf pd_10 rfl) rfl (by show 2 * 0 + _ ≤ _; exact Nat.le_of_eq rfl) (hb hby d_jdk_47_method_1_code_1) (fun _ _ => ⟨rfl, eE, (by decide : 0 + 0 ≤ _), (by decide : 0 + 0 ≤ _)⟩)
  dsimp only [Pt.U, Pt.locs, Pt.cells, Pt.slots] at X101 l101 y101 z101 st101 hQ101
  subst l101 y101 z101
  obtain ⟨rfl, Nq101, ek101⟩ := hQ101
  have N101 := Fr.app N0 Nq101
  obtain ⟨fs, hr, hrun, hended, hW, hsame⟩ := X101.leave (v := none) (fun _ => rfl)
  refine ⟨_, _, pre0 _ ?_, hrun, hended, _, _, rfl, ?_, ⟨_, rfl⟩, hW, hsame.mono (by decide) (by decide)⟩
  · show Steps pg.tables ev below (s₁.setTop (mkF mi 0 #[.val (.ref a)] [])) _
    refine XS.aloadN X0.here hx rfl (hb hby d_jdk_47_method_1_code_0) rfl rfl ?_
    show Steps pg.tables ev below (s₁.setTop (mkF mi 1 #[.val (.ref a)] [(.ref a)])) _
    refine st101.trans ?_
    show Steps pg.tables ev below (T101.setTop (mkF mi 4 #[.val (.ref a)] [])) _
    exact X101.returnOut hx Bd.returns (hb hby d_jdk_47_method_1_code_4) hr
  · show Q_aic Z a hE n0 _ T101.heap _
    rw [ek101]
    exact ⟨rfl, N101, rfl⟩
theorem d_jdk_46_method_1_code_0 : decode jdk_46_method_1_code 0 = .ok (.aload_n 0, 1) := by decide +kernel
theorem d_jdk_46_method_1_code_1 : decode jdk_46_method_1_code 1 = .ok (.invokespecial 1, 3) := by decide +kernel
theorem d_jdk_46_method_1_code_4 : decode jdk_46_method_1_code 4 = .ok (.return_, 1) := by decide +kernel
theorem pn_java_util_ImmutableCollections_AbstractImmutableList : plainName "java/util/ImmutableCollections$AbstractImmutableList" = true := by first | (simp [plainName, overriddenIn]; done) | decide +kernel
theorem ef_ail (mi : MethodId) (a : Addr) : entryFrame mi #[(.ref a)] 1 = mkF mi 0 #[.val (.ref a)] [] := by first | (simp [entryFrame, mkF, argsToLocals, Value.category]; done) | rfl
def Q_ail (Z : State) (a : Addr) (hE : Heap) (n0 : Nat) (vv : Option Value) (hh : Heap) (LL : List Loc) : Prop := (vv = none) ∧ (Fr n0 LL) ∧ (hh = hE)
set_option maxRecDepth 65536 in
set_option maxHeartbeats 40000000 in
theorem rm_ail (la : Launch) (Z : State) (a0 : Array Value) (hw : ∀ d ∈ tables_1, d.before a0 Z = true) (ws : List Jvm.Cond) (a : Addr) (hE : Heap) (n0 : Nat) (O : Old Z n0 hE) :
    MetFree la mn21 (head1 (Jvm.Cond.code mn21 jdk_46_method_1_code 1 none :: ws) ({ frames := 3, cells := 0, slots := 0, locals := 36 } : Room)) (fun aa UU => aa = #[(.ref a)] ∧ Z.Warmed39 UU.vm ∧ UU.heap = hE) (fun _ _ _ _ _ => True) (fun _ UU oo UV => ∃ vv LL, oo = .returned vv ∧ Q_ail Z a hE n0 vv UV.heap LL ∧ FrameEnd UU oo UV LL ({ frames := 3, cells := 0, slots := 0, locals := 36 } : Room).cells ({ frames := 3, cells := 0, slots := 0, locals := 36 } : Room).slots) := by
  refine MetFree.of_bodySF (plainFor_of_name pn_java_util_ImmutableCollections_AbstractImmutableList) hisR ?_
  intro pg ev sb mi gs below me cd s₁ Bd hml0 hPt hKt
  obtain ⟨rfl, hZ, hh⟩ := hPt
  have hx := Bd.exec
  have hby := Bd.bytes
  have hml : cd.maxLocals = 1 := hml0
  have hown : sb.vm.findClass "java/util/ImmutableCollections$AbstractImmutableList" = some mi.cls := findClass_of_methodNamed Bd.named
  have hnm := (name_of_methodNamed Bd.named Bd.method).1
  have X0 : Stand pg la ev ({ frames := 3, cells := 0, slots := 0, locals := 36 } : Room) sb mi #[(.ref a)] below me cd s₁ [] 0 0 := Stand.of_body Bd
  have eE : s₁.heap = hE := by rw [← hh, Bd.state]; rfl
  have N0 := Fr.nil n0
  have pre0 : ∀ tt, Steps pg.tables ev below (s₁.setTop (mkF mi 0 #[.val (.ref a)] [])) tt → Steps pg.tables ev below (s₁.setTop (entryFrame mi #[(.ref a)] 1)) tt := fun tt kk => castTop (ef_ail mi a) kk
  obtain ⟨v101, _, ⟨T101, L101, k101, n101⟩, -, X101, ⟨Lc101, hQ101, l101, y101, z101⟩, st101⟩ := X0.specialBack hx (y := mn20) rfl hown (mvT hZ (wd129 hw)) (mvT hZ (wd130 hw)) (mvT hZ (wd134 hw)) (by decide) (backOf (W := 0) (rm_aic la Z a0 hw [] a hE n0 O) hZ (wd134 hw) (wd133 hw) (by decide) (by decide)) (g := (mkF mi 1 #[.val (.ref a)] [(.ref a)])) rfl (by rw [hml]; rfl) (Steps.refl _) (a := a) (argsL := []) (rest := []) (lenOf pd_10 rfl) rfl (by show 2 * 0 + _ ≤ _; exact Nat.le_of_eq rfl) (hb hby d_jdk_46_method_1_code_1) (fun _ _ => ⟨rfl, eE, (by decide : 0 + 0 ≤ _), (by decide : 0 + 0 ≤ _)⟩)
  dsimp only [Pt.U, Pt.locs, Pt.cells, Pt.slots] at X101 l101 y101 z101 st101 hQ101
  subst l101 y101 z101
  obtain ⟨rfl, Nq101, ek101⟩ := hQ101
  have N101 := Fr.app N0 Nq101
  obtain ⟨fs, hr, hrun, hended, hW, hsame⟩ := X101.leave (v := none) (fun _ => rfl)
  refine ⟨_, _, pre0 _ ?_, hrun, hended, _, _, rfl, ?_, ⟨_, rfl⟩, hW, hsame.mono (by decide) (by decide)⟩
  · show Steps pg.tables ev below (s₁.setTop (mkF mi 0 #[.val (.ref a)] [])) _
    refine XS.aloadN X0.here hx rfl (hb hby d_jdk_46_method_1_code_0) rfl rfl ?_
    show Steps pg.tables ev below (s₁.setTop (mkF mi 1 #[.val (.ref a)] [(.ref a)])) _
    refine st101.trans ?_
    show Steps pg.tables ev below (T101.setTop (mkF mi 4 #[.val (.ref a)] [])) _
    exact X101.returnOut hx Bd.returns (hb hby d_jdk_46_method_1_code_4) hr
  · show Q_ail Z a hE n0 _ T101.heap _
    rw [ek101]
    exact ⟨rfl, N101, rfl⟩
theorem d_jdk_44_method_1_code_0 : decode jdk_44_method_1_code 0 = .ok (.aload_n 0, 1) := by decide +kernel
theorem d_jdk_44_method_1_code_1 : decode jdk_44_method_1_code 1 = .ok (.invokespecial 1, 3) := by decide +kernel
theorem d_jdk_44_method_1_code_4 : decode jdk_44_method_1_code 4 = .ok (.aload_n 0, 1) := by decide +kernel
theorem d_jdk_44_method_1_code_5 : decode jdk_44_method_1_code 5 = .ok (.aload_n 1, 1) := by decide +kernel
theorem d_jdk_44_method_1_code_6 : decode jdk_44_method_1_code 6 = .ok (.invokestatic 7, 3) := by decide +kernel
theorem d_jdk_44_method_1_code_9 : decode jdk_44_method_1_code 9 = .ok (.putfield 13, 3) := by decide +kernel
theorem d_jdk_44_method_1_code_12 : decode jdk_44_method_1_code 12 = .ok (.aload_n 0, 1) := by decide +kernel
theorem d_jdk_44_method_1_code_13 : decode jdk_44_method_1_code 13 = .ok (.getstatic 19, 3) := by decide +kernel
theorem d_jdk_44_method_1_code_16 : decode jdk_44_method_1_code 16 = .ok (.putfield 24, 3) := by decide +kernel
theorem d_jdk_44_method_1_code_19 : decode jdk_44_method_1_code 19 = .ok (.return_, 1) := by decide +kernel
theorem pd_13 : parseMethodDescriptor "(Ljava/lang/Object;)Ljava/lang/Object;" = some ⟨[(.object "java/lang/Object")], some (.object "java/lang/Object")⟩ := by decide +kernel
theorem pn_java_util_ImmutableCollections_List12 : plainName "java/util/ImmutableCollections$List12" = true := by first | (simp [plainName, overriddenIn]; done) | decide +kernel
theorem ef_l1i (mi : MethodId) (l_ : Addr) (a : Addr) : entryFrame mi #[(.ref l_), (.ref a)] 2 = mkF mi 0 #[.val (.ref l_), .val (.ref a)] [] := by first | (simp [entryFrame, mkF, argsToLocals, Value.category]; done) | rfl
def Q_l1i (Z : State) (l_ : Addr) (a : Addr) (em : Addr) (hE : Heap) (n0 : Nat) (vv : Option Value) (hh : Heap) (LL : List Loc) : Prop := (vv = none) ∧ (Fr n0 LL) ∧ (Keep hE hh [l_]) ∧ (Exa Z hh l_ "java/util/ImmutableCollections$List12") ∧ (Fld Z hh l_ "java/util/ImmutableCollections$List12" "e0" "Ljava/lang/Object;" (.ref a)) ∧ (Fld Z hh l_ "java/util/ImmutableCollections$List12" "e1" "Ljava/lang/Object;" (.ref em))
set_option maxRecDepth 65536 in
set_option maxHeartbeats 40000000 in
theorem rm_l1i (la : Launch) (Z : State) (a0 : Array Value) (hw : ∀ d ∈ tables_1, d.before a0 Z = true) (ws : List Jvm.Cond) (l_ : Addr) (a : Addr) (em : Addr) (hE : Heap) (n0 : Nat) (O : Old Z n0 hE) (P0_ : Exa Z hE l_ "java/util/ImmutableCollections$List12") (P1_ : Fld Z hE l_ "java/util/ImmutableCollections$List12" "e0" "Ljava/lang/Object;" .null) (P2_ : Fld Z hE l_ "java/util/ImmutableCollections$List12" "e1" "Ljava/lang/Object;" .null) (D0_ : Sta Z Z.heap "java/util/ImmutableCollections" "EMPTY" "Ljava/lang/Object;" (.ref em)) (g_l_ : n0 ≤ l_) :
    MetFree la mn22 (head1 (Jvm.Cond.code mn22 jdk_44_method_1_code 2 none :: ws) ({ frames := 4, cells := 0, slots := 0, locals := 48 } : Room)) (fun aa UU => aa = #[(.ref l_), (.ref a)] ∧ Z.Warmed39 UU.vm ∧ UU.heap = hE) (fun _ _ _ _ _ => True) (fun _ UU oo UV => ∃ vv LL, oo = .returned vv ∧ Q_l1i Z l_ a em hE n0 vv UV.heap LL ∧ FrameEnd UU oo UV LL ({ frames := 4, cells := 0, slots := 0, locals := 48 } : Room).cells ({ frames := 4, cells := 0, slots := 0, locals := 48 } : Room).slots) := by
  refine MetFree.of_bodySF (plainFor_of_name pn_java_util_ImmutableCollections_List12) hisR ?_
  intro pg ev sb mi gs below me cd s₁ Bd hml0 hPt hKt
  obtain ⟨rfl, hZ, hh⟩ := hPt
  have hx := Bd.exec
  have hby := Bd.bytes
  have hml : cd.maxLocals = 2 := hml0
  have hown : sb.vm.findClass "java/util/ImmutableCollections$List12" = some mi.cls := findClass_of_methodNamed Bd.named
  have hnm := (name_of_methodNamed Bd.named Bd.method).1
  have X0 : Stand pg la ev ({ frames := 4, cells := 0, slots := 0, locals := 48 } : Room) sb mi #[(.ref l_), (.ref a)] below me cd s₁ [] 0 0 := Stand.of_body Bd
  have eE : s₁.heap = hE := by rw [← hh, Bd.state]; rfl
  have N0 := Fr.nil n0
  have pre0 : ∀ tt, Steps pg.tables ev below (s₁.setTop (mkF mi 0 #[.val (.ref l_), .val (.ref a)] [])) tt → Steps pg.tables ev below (s₁.setTop (entryFrame mi #[(.ref l_), (.ref a)] 2)) tt := fun tt kk => castTop (ef_l1i mi l_ a) kk
  obtain ⟨v101, _, ⟨T101, L101, k101, n101⟩, -, X101, ⟨Lc101, hQ101, l101, y101, z101⟩, st101⟩ := X0.specialBack hx (y := mn21) rfl hown (mvT hZ (wd123 hw)) (mvT hZ (wd124 hw)) (mvT hZ (wd128 hw)) (by decide) (backOf (W := 0) (rm_ail la Z a0 hw [] l_ hE n0 O) hZ (wd128 hw) (wd127 hw) (by decide) (by decide)) (g := (mkF mi 1 #[.val (.ref l_), .val (.ref a)] [(.ref l_)])) rfl (by rw [hml]; rfl) (Steps.refl _) (a := l_) (argsL := []) (rest := []) (lenOf pd_10 rfl) rfl (by show 2 * 0 + _ ≤ _; exact Nat.le_of_eq rfl) (hb hby d_jdk_44_method_1_code_1) (fun _ _ => ⟨rfl, eE, (by decide : 0 + 0 ≤ _), (by decide : 0 + 0 ≤ _)⟩)
  dsimp only [Pt.U, Pt.locs, Pt.cells, Pt.slots] at X101 l101 y101 z101 st101 hQ101
  subst l101 y101 z101
  obtain ⟨rfl, Nq101, ek101⟩ := hQ101
  have N101 := Fr.app N0 Nq101
  obtain ⟨v102, _, ⟨T102, L102, k102, n102⟩, -, X102, ⟨Lc102, hQ102, l102, y102, z102⟩, st102⟩ := Jvm.LawKit.callS X101 hx (y := mn18) hown (mvT hZ (wd142 hw)) (mvT hZ (wd143 hw)) (mvT hZ (wd47 hw)) (mvT hZ (wd144 hw)) (by decide) (backOf (W := 1) (rm_rnn1 la Z a0 hw [] a hE n0 O) hZ (wd144 hw) (wd47 hw) (by decide) (by decide)) (g := (mkF mi 6 #[.val (.ref l_), .val (.ref a)] [(.ref a), (.ref l_)])) rfl (by rw [hml]; rfl) (argsL := [(.ref a)]) (rest := [(.ref l_)]) (lenOf pd_13 rfl) rfl (by show 2 * 0 + _ ≤ _; exact Nat.le_of_eq rfl) (hb hby d_jdk_44_method_1_code_6) (fun _ _ => ⟨rfl, ek101, (by decide : 0 + 0 ≤ _), (by decide : 0 + 0 ≤ _)⟩)
  dsimp only [Pt.U, Pt.locs, Pt.cells, Pt.slots] at X102 l102 y102 z102 st102 hQ102
  subst l102 y102 z102
  obtain ⟨rfl, Nq102, ek102⟩ := hQ102
  have N102 := Fr.app N101 Nq102
  obtain ⟨T103, h103, X103, e103, W103, st103⟩ := putF X102 hx hZ hown (host := "") (Or.inl (wd145 hw)) Via.refl ek102 P1_ P0_ (Or.inr ⟨(wd146 hw), rfl, hnm⟩) (wd117 hw) (ty := (.object "java/lang/Object")) (by decide) rfl rfl (g := (mkF mi 9 #[.val (.ref l_), .val (.ref a)] [(.ref a), (.ref l_)])) rfl rfl (hb hby d_jdk_44_method_1_code_9)
  have N103 := Fr.snoc X103 N102 g_l_
  have f104 : Fld Z h103 l_ "java/util/ImmutableCollections$List12" "e0" "Ljava/lang/Object;" (.ref a) := P1_.same W103
  have O105 : Old Z n0 h103 := (O.keep (Keep.of_wr W103) (allS g_l_ all0))
  obtain ⟨T106, X106, e106, st106⟩ := getS2 X103 hx hZ hown (Or.inr (wd147 hw)) Via.refl e103 (D0_.ext O105.2) (g := (mkF mi 13 #[.val (.ref l_), .val (.ref a)] [(.ref l_)])) rfl (hb hby d_jdk_44_method_1_code_13)
  have f107 : Exa Z h103 l_ "java/util/ImmutableCollections$List12" := (P0_.keep (Keep.of_wr W103))
  have f108 : Fld Z h103 l_ "java/util/ImmutableCollections$List12" "e1" "Ljava/lang/Object;" .null := (P2_.other W103 (Or.inr (slot_ne (Or.inr (wd150 hw)) (Or.inr (wd146 hw)) (by decide) (t := (.object "java/lang/Object")) (t' := (.object "java/lang/Object")) (by decide) (by decide))))
  obtain ⟨T109, h109, X109, e109, W109, st109⟩ := putF X106 hx hZ hown (host := "") (Or.inl (wd149 hw)) Via.refl e106 f108 f107 (Or.inr ⟨(wd150 hw), rfl, hnm⟩) (wd117 hw) (ty := (.object "java/lang/Object")) (by decide) rfl rfl (g := (mkF mi 16 #[.val (.ref l_), .val (.ref a)] [(.ref em), (.ref l_)])) rfl rfl (hb hby d_jdk_44_method_1_code_16)
  have N109 := Fr.snoc X109 N103 g_l_
  have f110 : Fld Z h109 l_ "java/util/ImmutableCollections$List12" "e1" "Ljava/lang/Object;" (.ref em) := f108.same W109
  have f111 : Exa Z h109 l_ "java/util/ImmutableCollections$List12" := (f107.keep (Keep.of_wr W109))
  have f112 : Fld Z h109 l_ "java/util/ImmutableCollections$List12" "e0" "Ljava/lang/Object;" (.ref a) := (f104.other W109 (Or.inr (slot_ne (Or.inr (wd146 hw)) (Or.inr (wd150 hw)) (by decide) (t := (.object "java/lang/Object")) (t' := (.object "java/lang/Object")) (by decide) (by decide))))
  obtain ⟨fs, hr, hrun, hended, hW, hsame⟩ := X109.leave (v := none) (fun _ => rfl)
  refine ⟨_, _, pre0 _ ?_, hrun, hended, _, _, rfl, ?_, ⟨_, rfl⟩, hW, hsame.mono (by decide) (by decide)⟩
  · show Steps pg.tables ev below (s₁.setTop (mkF mi 0 #[.val (.ref l_), .val (.ref a)] [])) _
    refine XS.aloadN X0.here hx rfl (hb hby d_jdk_44_method_1_code_0) rfl rfl ?_
    show Steps pg.tables ev below (s₁.setTop (mkF mi 1 #[.val (.ref l_), .val (.ref a)] [(.ref l_)])) _
    refine st101.trans ?_
    show Steps pg.tables ev below (T101.setTop (mkF mi 4 #[.val (.ref l_), .val (.ref a)] [])) _
    refine XS.aloadN X101.here hx rfl (hb hby d_jdk_44_method_1_code_4) rfl rfl ?_
    refine XS.aloadN X101.here hx rfl (hb hby d_jdk_44_method_1_code_5) rfl rfl ?_
    show Steps pg.tables ev below (T101.setTop (mkF mi 6 #[.val (.ref l_), .val (.ref a)] [(.ref a), (.ref l_)])) _
    refine st102 _ ?_
    show Steps pg.tables ev below (T102.setTop (mkF mi 9 #[.val (.ref l_), .val (.ref a)] [(.ref a), (.ref l_)])) _
    refine st103 _ ?_
    show Steps pg.tables ev below (T103.setTop (mkF mi 12 #[.val (.ref l_), .val (.ref a)] [])) _
    refine XS.aloadN X103.here hx rfl (hb hby d_jdk_44_method_1_code_12) rfl rfl ?_
    show Steps pg.tables ev below (T103.setTop (mkF mi 13 #[.val (.ref l_), .val (.ref a)] [(.ref l_)])) _
    refine st106 _ ?_
    show Steps pg.tables ev below (T106.setTop (mkF mi 16 #[.val (.ref l_), .val (.ref a)] [(.ref em), (.ref l_)])) _
    refine st109 _ ?_
    show Steps pg.tables ev below (T109.setTop (mkF mi 19 #[.val (.ref l_), .val (.ref a)] [])) _
    exact X109.returnOut hx Bd.returns (hb hby d_jdk_44_method_1_code_19) hr
  · show Q_l1i Z l_ a em hE n0 _ T109.heap _
    rw [e109]
    exact ⟨rfl, N109, (((Keep.refl hE [l_]).trans (Keep.of_wr W103) (allS (Or.inl (List.mem_of_getElem? (i := 0) rfl)) all0)).trans (Keep.of_wr W109) (allS (Or.inl (List.mem_of_getElem? (i := 0) rfl)) all0)), f111, f112, f110⟩
theorem d_jdk_44_method_2_code_0 : decode jdk_44_method_2_code 0 = .ok (.aload_n 0, 1) := by decide +kernel
theorem d_jdk_44_method_2_code_1 : decode jdk_44_method_2_code 1 = .ok (.invokespecial 1, 3) := by decide +kernel
theorem d_jdk_44_method_2_code_4 : decode jdk_44_method_2_code 4 = .ok (.aload_n 0, 1) := by decide +kernel
theorem d_jdk_44_method_2_code_5 : decode jdk_44_method_2_code 5 = .ok (.aload_n 1, 1) := by decide +kernel
theorem d_jdk_44_method_2_code_6 : decode jdk_44_method_2_code 6 = .ok (.invokestatic 7, 3) := by decide +kernel
theorem d_jdk_44_method_2_code_9 : decode jdk_44_method_2_code 9 = .ok (.putfield 13, 3) := by decide +kernel
theorem d_jdk_44_method_2_code_12 : decode jdk_44_method_2_code 12 = .ok (.aload_n 0, 1) := by decide +kernel
theorem d_jdk_44_method_2_code_13 : decode jdk_44_method_2_code 13 = .ok (.aload_n 2, 1) := by decide +kernel
theorem d_jdk_44_method_2_code_14 : decode jdk_44_method_2_code 14 = .ok (.invokestatic 7, 3) := by decide +kernel
theorem d_jdk_44_method_2_code_17 : decode jdk_44_method_2_code 17 = .ok (.putfield 24, 3) := by decide +kernel
theorem d_jdk_44_method_2_code_20 : decode jdk_44_method_2_code 20 = .ok (.return_, 1) := by decide +kernel
theorem ef_l2i (mi : MethodId) (l_ : Addr) (a : Addr) (b : Addr) : entryFrame mi #[(.ref l_), (.ref a), (.ref b)] 3 = mkF mi 0 #[.val (.ref l_), .val (.ref a), .val (.ref b)] [] := by first | (simp [entryFrame, mkF, argsToLocals, Value.category]; done) | rfl
def Q_l2i (Z : State) (l_ : Addr) (a : Addr) (b : Addr) (hE : Heap) (n0 : Nat) (vv : Option Value) (hh : Heap) (LL : List Loc) : Prop := (vv = none) ∧ (Fr n0 LL) ∧ (Keep hE hh [l_]) ∧ (Exa Z hh l_ "java/util/ImmutableCollections$List12") ∧ (Fld Z hh l_ "java/util/ImmutableCollections$List12" "e0" "Ljava/lang/Object;" (.ref a)) ∧ (Fld Z hh l_ "java/util/ImmutableCollections$List12" "e1" "Ljava/lang/Object;" (.ref b))
set_option maxRecDepth 65536 in
set_option maxHeartbeats 40000000 in
theorem rm_l2i (la : Launch) (Z : State) (a0 : Array Value) (hw : ∀ d ∈ tables_1, d.before a0 Z = true) (ws : List Jvm.Cond) (l_ : Addr) (a : Addr) (b : Addr) (hE : Heap) (n0 : Nat) (O : Old Z n0 hE) (P0_ : Exa Z hE l_ "java/util/ImmutableCollections$List12") (P1_ : Fld Z hE l_ "java/util/ImmutableCollections$List12" "e0" "Ljava/lang/Object;" .null) (P2_ : Fld Z hE l_ "java/util/ImmutableCollections$List12" "e1" "Ljava/lang/Object;" .null) (g_l_ : n0 ≤ l_) :
    MetFree la mn23 (head1 (Jvm.Cond.code mn23 jdk_44_method_2_code 3 none :: ws) ({ frames := 4, cells := 0, slots := 0, locals := 48 } : Room)) (fun aa UU => aa = #[(.ref l_), (.ref a), (.ref b)] ∧ Z.Warmed39 UU.vm ∧ UU.heap = hE) (fun _ _ _ _ _ => True) (fun _ UU oo UV => ∃ vv LL, oo = .returned vv ∧ Q_l2i Z l_ a b hE n0 vv UV.heap LL ∧ FrameEnd UU oo UV LL ({ frames := 4, cells := 0, slots := 0, locals := 48 } : Room).cells ({ frames := 4, cells := 0, slots := 0, locals := 48 } : Room).slots) := by
  refine MetFree.of_bodySF (plainFor_of_name pn_java_util_ImmutableCollections_List12) hisR ?_
  intro pg ev sb mi gs below me cd s₁ Bd hml0 hPt hKt
  obtain ⟨rfl, hZ, hh⟩ := hPt
  have hx := Bd.exec
  have hby := Bd.bytes
  have hml : cd.maxLocals = 3 := hml0
  have hown : sb.vm.findClass "java/util/ImmutableCollections$List12" = some mi.cls := findClass_of_methodNamed Bd.named
  have hnm := (name_of_methodNamed Bd.named Bd.method).1
  have X0 : Stand pg la ev ({ frames := 4, cells := 0, slots := 0, locals := 48 } : Room) sb mi #[(.ref l_), (.ref a), (.ref b)] below me cd s₁ [] 0 0 := Stand.of_body Bd
  have eE : s₁.heap = hE := by rw [← hh, Bd.state]; rfl
  have N0 := Fr.nil n0
  have pre0 : ∀ tt, Steps pg.tables ev below (s₁.setTop (mkF mi 0 #[.val (.ref l_), .val (.ref a), .val (.ref b)] [])) tt → Steps pg.tables ev below (s₁.setTop (entryFrame mi #[(.ref l_), (.ref a), (.ref b)] 3)) tt := fun tt kk => castTop (ef_l2i mi l_ a b) kk
  obtain ⟨v101, _, ⟨T101, L101, k101, n101⟩, -, X101, ⟨Lc101, hQ101, l101, y101, z101⟩, st101⟩ := X0.specialBack hx (y := mn21) rfl hown (mvT hZ (wd123 hw)) (mvT hZ (wd124 hw)) (mvT hZ (wd128 hw)) (by decide) (backOf (W := 0) (rm_ail la Z a0 hw [] l_ hE n0 O) hZ (wd128 hw) (wd127 hw) (by decide) (by decide)) (g := (mkF mi 1 #[.val (.ref l_), .val (.ref a), .val (.ref b)] [(.ref l_)])) rfl (by rw [hml]; rfl) (Steps.refl _) (a := l_) (argsL := []) (rest := []) (lenOf pd_10 rfl) rfl (by show 2 * 0 + _ ≤ _; exact Nat.le_of_eq rfl) (hb hby d_jdk_44_method_2_code_1) (fun _ _ => ⟨rfl, eE, (by decide : 0 + 0 ≤ _), (by decide : 0 + 0 ≤ _)⟩)
  dsimp only [Pt.U, Pt.locs, Pt.cells, Pt.slots] at X101 l101 y101 z101 st101 hQ101
  subst l101 y101 z101
  obtain ⟨rfl, Nq101, ek101⟩ := hQ101
  have N101 := Fr.app N0 Nq101
  obtain ⟨v102, _, ⟨T102, L102, k102, n102⟩, -, X102, ⟨Lc102, hQ102, l102, y102, z102⟩, st102⟩ := Jvm.LawKit.callS X101 hx (y := mn18) hown (mvT hZ (wd142 hw)) (mvT hZ (wd143 hw)) (mvT hZ (wd47 hw)) (mvT hZ (wd144 hw)) (by decide) (backOf (W := 1) (rm_rnn1 la Z a0 hw [] a hE n0 O) hZ (wd144 hw) (wd47 hw) (by decide) (by decide)) (g := (mkF mi 6 #[.val (.ref l_), .val (.ref a), .val (.ref b)] [(.ref a), (.ref l_)])) rfl (by rw [hml]; rfl) (argsL := [(.ref a)]) (rest := [(.ref l_)]) (lenOf pd_13 rfl) rfl (by show 2 * 0 + _ ≤ _; exact Nat.le_of_eq rfl) (hb hby d_jdk_44_method_2_code_6) (fun _ _ => ⟨rfl, ek101, (by decide : 0 + 0 ≤ _), (by decide : 0 + 0 ≤ _)⟩)
  dsimp only [Pt.U, Pt.locs, Pt.cells, Pt.slots] at X102 l102 y102 z102 st102 hQ102
  subst l102 y102 z102
  obtain ⟨rfl, Nq102, ek102⟩ := hQ102
  have N102 := Fr.app N101 Nq102
  obtain ⟨T103, h103, X103, e103, W103, st103⟩ := putF X102 hx hZ hown (host := "") (Or.inl (wd145 hw)) Via.refl ek102 P1_ P0_ (Or.inr ⟨(wd146 hw), rfl, hnm⟩) (wd117 hw) (ty := (.object "java/lang/Object")) (by decide) rfl rfl (g := (mkF mi 9 #[.val (.ref l_), .val (.ref a), .val (.ref b)] [(.ref a), (.ref l_)])) rfl rfl (hb hby d_jdk_44_method_2_code_9)
  have N103 := Fr.snoc X103 N102 g_l_
  have f104 : Fld Z h103 l_ "java/util/ImmutableCollections$List12" "e0" "Ljava/lang/Object;" (.ref a) := P1_.same W103
  have O105 : Old Z n0 h103 := (O.keep (Keep.of_wr W103) (allS g_l_ all0))
  obtain ⟨v106, _, ⟨T106, L106, k106, n106⟩, -, X106, ⟨Lc106, hQ106, l106, y106, z106⟩, st106⟩ := Jvm.LawKit.callS X103 hx (y := mn18) hown (mvT hZ (wd142 hw)) (mvT hZ (wd143 hw)) (mvT hZ (wd47 hw)) (mvT hZ (wd144 hw)) (by decide) (backOf (W := 1) (rm_rnn1 la Z a0 hw [] b h103 n0 O105) hZ (wd144 hw) (wd47 hw) (by decide) (by decide)) (g := (mkF mi 14 #[.val (.ref l_), .val (.ref a), .val (.ref b)] [(.ref b), (.ref l_)])) rfl (by rw [hml]; rfl) (argsL := [(.ref b)]) (rest := [(.ref l_)]) (lenOf pd_13 rfl) rfl (by show 2 * 0 + _ ≤ _; exact Nat.le_of_eq rfl) (hb hby d_jdk_44_method_2_code_14) (fun _ _ => ⟨rfl, e103, (by decide : 0 + 0 ≤ _), (by decide : 0 + 0 ≤ _)⟩)
  dsimp only [Pt.U, Pt.locs, Pt.cells, Pt.slots] at X106 l106 y106 z106 st106 hQ106
  subst l106 y106 z106
  obtain ⟨rfl, Nq106, ek106⟩ := hQ106
  have N106 := Fr.app N103 Nq106
  have f107 : Exa Z h103 l_ "java/util/ImmutableCollections$List12" := (P0_.keep (Keep.of_wr W103))
  have f108 : Fld Z h103 l_ "java/util/ImmutableCollections$List12" "e1" "Ljava/lang/Object;" .null := (P2_.other W103 (Or.inr (slot_ne (Or.inr (wd150 hw)) (Or.inr (wd146 hw)) (by decide) (t := (.object "java/lang/Object")) (t' := (.object "java/lang/Object")) (by decide) (by decide))))
  obtain ⟨T109, h109, X109, e109, W109, st109⟩ := putF X106 hx hZ hown (host := "") (Or.inl (wd149 hw)) Via.refl ek106 f108 f107 (Or.inr ⟨(wd150 hw), rfl, hnm⟩) (wd117 hw) (ty := (.object "java/lang/Object")) (by decide) rfl rfl (g := (mkF mi 17 #[.val (.ref l_), .val (.ref a), .val (.ref b)] [(.ref b), (.ref l_)])) rfl rfl (hb hby d_jdk_44_method_2_code_17)
  have N109 := Fr.snoc X109 N106 g_l_
  have f110 : Fld Z h109 l_ "java/util/ImmutableCollections$List12" "e1" "Ljava/lang/Object;" (.ref b) := f108.same W109
  have f111 : Exa Z h109 l_ "java/util/ImmutableCollections$List12" := (f107.keep (Keep.of_wr W109))
  have f112 : Fld Z h109 l_ "java/util/ImmutableCollections$List12" "e0" "Ljava/lang/Object;" (.ref a) := (f104.other W109 (Or.inr (slot_ne (Or.inr (wd146 hw)) (Or.inr (wd150 hw)) (by decide) (t := (.object "java/lang/Object")) (t' := (.object "java/lang/Object")) (by decide) (by decide))))
  obtain ⟨fs, hr, hrun, hended, hW, hsame⟩ := X109.leave (v := none) (fun _ => rfl)
  refine ⟨_, _, pre0 _ ?_, hrun, hended, _, _, rfl, ?_, ⟨_, rfl⟩, hW, hsame.mono (by decide) (by decide)⟩
  · show Steps pg.tables ev below (s₁.setTop (mkF mi 0 #[.val (.ref l_), .val (.ref a), .val (.ref b)] [])) _
    refine XS.aloadN X0.here hx rfl (hb hby d_jdk_44_method_2_code_0) rfl rfl ?_
    show Steps pg.tables ev below (s₁.setTop (mkF mi 1 #[.val (.ref l_), .val (.ref a), .val (.ref b)] [(.ref l_)])) _
    refine st101.trans ?_
    show Steps pg.tables ev below (T101.setTop (mkF mi 4 #[.val (.ref l_), .val (.ref a), .val (.ref b)] [])) _
    refine XS.aloadN X101.here hx rfl (hb hby d_jdk_44_method_2_code_4) rfl rfl ?_
    refine XS.aloadN X101.here hx rfl (hb hby d_jdk_44_method_2_code_5) rfl rfl ?_
    show Steps pg.tables ev below (T101.setTop (mkF mi 6 #[.val (.ref l_), .val (.ref a), .val (.ref b)] [(.ref a), (.ref l_)])) _
    refine st102 _ ?_
    show Steps pg.tables ev below (T102.setTop (mkF mi 9 #[.val (.ref l_), .val (.ref a), .val (.ref b)] [(.ref a), (.ref l_)])) _
    refine st103 _ ?_
    show Steps pg.tables ev below (T103.setTop (mkF mi 12 #[.val (.ref l_), .val (.ref a), .val (.ref b)] [])) _
    refine XS.aloadN X103.here hx rfl (hb hby d_jdk_44_method_2_code_12) rfl rfl ?_
    refine XS.aloadN X103.here hx rfl (hb hby d_jdk_44_method_2_code_13) rfl rfl ?_
    show Steps pg.tables ev below (T103.setTop (mkF mi 14 #[.val (.ref l_), .val (.ref a), .val (.ref b)] [(.ref b), (.ref l_)])) _
    refine st106 _ ?_
    show Steps pg.tables ev below (T106.setTop (mkF mi 17 #[.val (.ref l_), .val (.ref a), .val (.ref b)] [(.ref b), (.ref l_)])) _
    refine st109 _ ?_
    show Steps pg.tables ev below (T109.setTop (mkF mi 20 #[.val (.ref l_), .val (.ref a), .val (.ref b)] [])) _
    exact X109.returnOut hx Bd.returns (hb hby d_jdk_44_method_2_code_20) hr
  · show Q_l2i Z l_ a b hE n0 _ T109.heap _
    rw [e109]
    exact ⟨rfl, N109, (((Keep.refl hE [l_]).trans (Keep.of_wr W103) (allS (Or.inl (List.mem_of_getElem? (i := 0) rfl)) all0)).trans (Keep.of_wr W109) (allS (Or.inl (List.mem_of_getElem? (i := 0) rfl)) all0)), f111, f112, f110⟩
theorem d_jdk_40_method_37_code_0 : decode jdk_40_method_37_code 0 = .ok (.new 96, 3) := by decide +kernel
theorem d_jdk_40_method_37_code_3 : decode jdk_40_method_37_code 3 = .ok (.dup, 1) := by decide +kernel
theorem d_jdk_40_method_37_code_4 : decode jdk_40_method_37_code 4 = .ok (.aload_n 0, 1) := by decide +kernel
theorem d_jdk_40_method_37_code_5 : decode jdk_40_method_37_code 5 = .ok (.invokespecial 98, 3) := by decide +kernel
theorem d_jdk_40_method_37_code_8 : decode jdk_40_method_37_code 8 = .ok (.areturn, 1) := by decide +kernel
theorem pd_14 : parseMethodDescriptor "(Ljava/lang/Object;)V" = some ⟨[(.object "java/lang/Object")], none⟩ := by decide +kernel
theorem pn_java_util_List : plainName "java/util/List" = true := by first | (simp [plainName, overriddenIn]; done) | decide +kernel
theorem ef_lo1 (mi : MethodId) (a : Addr) : entryFrame mi #[(.ref a)] 1 = mkF mi 0 #[.val (.ref a)] [] := by first | (simp [entryFrame, mkF, argsToLocals, Value.category]; done) | rfl
def Q_lo1 (Z : State) (a : Addr) (em : Addr) (hE : Heap) (n0 : Nat) (vv : Option Value) (hh : Heap) (LL : List Loc) : Prop := ∃ l_ : Addr, (vv = some (.ref l_)) ∧ (Fr n0 LL) ∧ (Keep hE hh []) ∧ (hE.size ≤ l_) ∧ (Exa Z hh l_ "java/util/ImmutableCollections$List12") ∧ (Fld Z hh l_ "java/util/ImmutableCollections$List12" "e0" "Ljava/lang/Object;" (.ref a)) ∧ (Fld Z hh l_ "java/util/ImmutableCollections$List12" "e1" "Ljava/lang/Object;" (.ref em))
set_option maxRecDepth 65536 in
set_option maxHeartbeats 40000000 in
theorem rm_lo1 (la : Launch) (Z : State) (a0 : Array Value) (hw : ∀ d ∈ tables_1, d.before a0 Z = true) (ws : List Jvm.Cond) (a : Addr) (em : Addr) (hE : Heap) (n0 : Nat) (O : Old Z n0 hE) (D0_ : Sta Z Z.heap "java/util/ImmutableCollections" "EMPTY" "Ljava/lang/Object;" (.ref em)) :
    MetFree la mn24 (head1 (Jvm.Cond.code mn24 jdk_40_method_37_code 1 (some (.object "java/util/List")) :: ws) ({ frames := 5, cells := 1, slots := 2, locals := 62 } : Room)) (fun aa UU => aa = #[(.ref a)] ∧ Z.Warmed39 UU.vm ∧ UU.heap = hE) (fun _ _ _ _ _ => True) (fun _ UU oo UV => ∃ vv LL, oo = .returned vv ∧ Q_lo1 Z a em hE n0 vv UV.heap LL ∧ FrameEnd UU oo UV LL ({ frames := 5, cells := 1, slots := 2, locals := 62 } : Room).cells ({ frames := 5, cells := 1, slots := 2, locals := 62 } : Room).slots) := by
  refine MetFree.of_bodySF (plainFor_of_name pn_java_util_List) hisR ?_
  intro pg ev sb mi gs below me cd s₁ Bd hml0 hPt hKt
  obtain ⟨rfl, hZ, hh⟩ := hPt
  have hx := Bd.exec
  have hby := Bd.bytes
  have hml : cd.maxLocals = 1 := hml0
  have hown : sb.vm.findClass "java/util/List" = some mi.cls := findClass_of_methodNamed Bd.named
  have hnm := (name_of_methodNamed Bd.named Bd.method).1
  have X0 : Stand pg la ev ({ frames := 5, cells := 1, slots := 2, locals := 62 } : Room) sb mi #[(.ref a)] below me cd s₁ [] 0 0 := Stand.of_body Bd
  have eE : s₁.heap = hE := by rw [← hh, Bd.state]; rfl
  have N0 := Fr.nil n0
  have pre0 : ∀ tt, Steps pg.tables ev below (s₁.setTop (mkF mi 0 #[.val (.ref a)] [])) tt → Steps pg.tables ev below (s₁.setTop (entryFrame mi #[(.ref a)] 1)) tt := fun tt kk => castTop (ef_lo1 mi a) kk
  obtain ⟨T101, h101, X101, e101, E101, A101, D101, -, st101⟩ := newO X0 hx hZ hown (wd116 hw) (wd117 hw) (wd118 hw) eE (g := (mkF mi 0 #[.val (.ref a)] [])) rfl (hb hby d_jdk_40_method_37_code_0) (by decide) (by decide)
  obtain ⟨b101, q101⟩ : ∃ z, z = hE.size := ⟨_, rfl⟩
  rw [← q101] at A101 D101 st101
  have f102 : Fld Z h101 b101 "java/util/ImmutableCollections$List12" "e0" "Ljava/lang/Object;" .null := D101 (Or.inr (wd146 hw)) (ty := (.object "java/lang/Object")) (by decide)
  have f103 : Fld Z h101 b101 "java/util/ImmutableCollections$List12" "e1" "Ljava/lang/Object;" .null := D101 (Or.inr (wd150 hw)) (ty := (.object "java/lang/Object")) (by decide)
  have O104 : Old Z n0 h101 := (O.ext E101)
  have g_b101 : n0 ≤ b101 := Nat.le_trans (Nat.le_trans (Nat.le_of_eq O.1.symm) O.2.1) (Nat.le_of_eq q101.symm)
  obtain ⟨v105, _, ⟨T105, L105, k105, n105⟩, -, X105, ⟨Lc105, hQ105, l105, y105, z105⟩, st105⟩ := X101.specialBack hx (y := mn22) rfl hown (mvT hZ (wd119 hw)) (mvT hZ (wd120 hw)) (mvT hZ (wd122 hw)) (by decide) (backOf (W := 1) (rm_l1i la Z a0 hw [] b101 a em h101 n0 O104 A101 f102 f103 D0_ g_b101) hZ (wd122 hw) (wd118 hw) (by decide) (by decide)) (g := (mkF mi 5 #[.val (.ref a)] [(.ref a), (.ref b101), (.ref b101)])) rfl (by rw [hml]; rfl) (Steps.refl _) (a := b101) (argsL := [(.ref a)]) (rest := [(.ref b101)]) (lenOf pd_14 rfl) rfl (by show 2 * 0 + _ ≤ _; exact Nat.le_of_eq rfl) (hb hby d_jdk_40_method_37_code_5) (fun _ _ => ⟨rfl, e101, (by decide : 1 + 0 ≤ _), (by decide : 2 + 0 ≤ _)⟩)
  dsimp only [Pt.U, Pt.locs, Pt.cells, Pt.slots] at X105 l105 y105 z105 st105 hQ105
  subst l105 y105 z105
  obtain ⟨rfl, Nq105, Kq105, r105_0, r105_1, r105_2⟩ := hQ105
  have N105 := Fr.app N0 Nq105
  obtain ⟨fs, hr, hrun, hended, hW, hsame⟩ := X105.leave (v := some (.ref b101)) (fun hq => by rw [Bd.returns] at hq; cases hq)
  refine ⟨_, _, pre0 _ ?_, hrun, hended, _, _, rfl, ?_, ⟨_, rfl⟩, hW, hsame.mono (by decide) (by decide)⟩
  · show Steps pg.tables ev below (s₁.setTop (mkF mi 0 #[.val (.ref a)] [])) _
    refine st101 _ ?_
    show Steps pg.tables ev below (T101.setTop (mkF mi 3 #[.val (.ref a)] [(.ref b101)])) _
    refine XS.dup X101.here hx rfl (hb hby d_jdk_40_method_37_code_3) rfl rfl ?_
    refine XS.aloadN X101.here hx rfl (hb hby d_jdk_40_method_37_code_4) rfl rfl ?_
    show Steps pg.tables ev below (T101.setTop (mkF mi 5 #[.val (.ref a)] [(.ref a), (.ref b101), (.ref b101)])) _
    refine st105.trans ?_
    show Steps pg.tables ev below (T105.setTop (mkF mi 8 #[.val (.ref a)] [(.ref b101)])) _
    jvm_step X105.here [X105.here.top, hx, (hb hby d_jdk_40_method_37_code_8), X105.method', Bd.returns, Value.isRef, FieldType.isReference]
    first | (intro acts; rw [hr _ acts rfl rfl rfl]) | rw [hr _ _ rfl rfl rfl]
    exact Steps.refl _
  · show Q_lo1 Z a em hE n0 _ T105.heap _
    exact ⟨b101, rfl, N105, (((Keep.refl hE []).ext E101).trans Kq105 (allS (Or.inr (Nat.le_of_eq q101.symm)) all0)), (Nat.le_of_eq q101.symm), r105_0, r105_1, r105_2⟩
theorem d_jdk_40_method_38_code_0 : decode jdk_40_method_38_code 0 = .ok (.new 96, 3) := by decide +kernel
theorem d_jdk_40_method_38_code_3 : decode jdk_40_method_38_code 3 = .ok (.dup, 1) := by decide +kernel
theorem d_jdk_40_method_38_code_4 : decode jdk_40_method_38_code 4 = .ok (.aload_n 0, 1) := by decide +kernel
theorem d_jdk_40_method_38_code_5 : decode jdk_40_method_38_code 5 = .ok (.aload_n 1, 1) := by decide +kernel
theorem d_jdk_40_method_38_code_6 : decode jdk_40_method_38_code 6 = .ok (.invokespecial 100, 3) := by decide +kernel
theorem d_jdk_40_method_38_code_9 : decode jdk_40_method_38_code 9 = .ok (.areturn, 1) := by decide +kernel
theorem pd_15 : parseMethodDescriptor "(Ljava/lang/Object;Ljava/lang/Object;)V" = some ⟨[(.object "java/lang/Object"), (.object "java/lang/Object")], none⟩ := by decide +kernel
theorem ef_lo2 (mi : MethodId) (a : Addr) (b : Addr) : entryFrame mi #[(.ref a), (.ref b)] 2 = mkF mi 0 #[.val (.ref a), .val (.ref b)] [] := by first | (simp [entryFrame, mkF, argsToLocals, Value.category]; done) | rfl
def Q_lo2 (Z : State) (a : Addr) (b : Addr) (hE : Heap) (n0 : Nat) (vv : Option Value) (hh : Heap) (LL : List Loc) : Prop := ∃ l_ : Addr, (vv = some (.ref l_)) ∧ (Fr n0 LL) ∧ (Keep hE hh []) ∧ (hE.size ≤ l_) ∧ (Exa Z hh l_ "java/util/ImmutableCollections$List12") ∧ (Fld Z hh l_ "java/util/ImmutableCollections$List12" "e0" "Ljava/lang/Object;" (.ref a)) ∧ (Fld Z hh l_ "java/util/ImmutableCollections$List12" "e1" "Ljava/lang/Object;" (.ref b))
set_option maxRecDepth 65536 in
set_option maxHeartbeats 40000000 in
theorem rm_lo2 (la : Launch) (Z : State) (a0 : Array Value) (hw : ∀ d ∈ tables_1, d.before a0 Z = true) (ws : List Jvm.Cond) (a : Addr) (b : Addr) (hE : Heap) (n0 : Nat) (O : Old Z n0 hE) :
    MetFree la mn25 (head1 (Jvm.Cond.code mn25 jdk_40_method_38_code 2 (some (.object "java/util/List")) :: ws) ({ frames := 5, cells := 1, slots := 2, locals := 63 } : Room)) (fun aa UU => aa = #[(.ref a), (.ref b)] ∧ Z.Warmed39 UU.vm ∧ UU.heap = hE) (fun _ _ _ _ _ => True) (fun _ UU oo UV => ∃ vv LL, oo = .returned vv ∧ Q_lo2 Z a b hE n0 vv UV.heap LL ∧ FrameEnd UU oo UV LL ({ frames := 5, cells := 1, slots := 2, locals := 63 } : Room).cells ({ frames := 5, cells := 1, slots := 2, locals := 63 } : Room).slots) := by
  refine MetFree.of_bodySF (plainFor_of_name pn_java_util_List) hisR ?_
  intro pg ev sb mi gs below me cd s₁ Bd hml0 hPt hKt
  obtain ⟨rfl, hZ, hh⟩ := hPt
  have hx := Bd.exec
  have hby := Bd.bytes
  have hml : cd.maxLocals = 2 := hml0
  have hown : sb.vm.findClass "java/util/List" = some mi.cls := findClass_of_methodNamed Bd.named
  have hnm := (name_of_methodNamed Bd.named Bd.method).1
  have X0 : Stand pg la ev ({ frames := 5, cells := 1, slots := 2, locals := 63 } : Room) sb mi #[(.ref a), (.ref b)] below me cd s₁ [] 0 0 := Stand.of_body Bd
  have eE : s₁.heap = hE := by rw [← hh, Bd.state]; rfl
  have N0 := Fr.nil n0
  have pre0 : ∀ tt, Steps pg.tables ev below (s₁.setTop (mkF mi 0 #[.val (.ref a), .val (.ref b)] [])) tt → Steps pg.tables ev below (s₁.setTop (entryFrame mi #[(.ref a), (.ref b)] 2)) tt := fun tt kk => castTop (ef_lo2 mi a b) kk
  obtain ⟨T101, h101, X101, e101, E101, A101, D101, -, st101⟩ := newO X0 hx hZ hown (wd116 hw) (wd117 hw) (wd118 hw) eE (g := (mkF mi 0 #[.val (.ref a), .val (.ref b)] [])) rfl (hb hby d_jdk_40_method_38_code_0) (by decide) (by decide)
  obtain ⟨b101, q101⟩ : ∃ z, z = hE.size := ⟨_, rfl⟩
  rw [← q101] at A101 D101 st101
  have f102 : Fld Z h101 b101 "java/util/ImmutableCollections$List12" "e0" "Ljava/lang/Object;" .null := D101 (Or.inr (wd146 hw)) (ty := (.object "java/lang/Object")) (by decide)
  have f103 : Fld Z h101 b101 "java/util/ImmutableCollections$List12" "e1" "Ljava/lang/Object;" .null := D101 (Or.inr (wd150 hw)) (ty := (.object "java/lang/Object")) (by decide)
  have O104 : Old Z n0 h101 := (O.ext E101)
  have g_b101 : n0 ≤ b101 := Nat.le_trans (Nat.le_trans (Nat.le_of_eq O.1.symm) O.2.1) (Nat.le_of_eq q101.symm)
  obtain ⟨v105, _, ⟨T105, L105, k105, n105⟩, -, X105, ⟨Lc105, hQ105, l105, y105, z105⟩, st105⟩ := X101.specialBack hx (y := mn23) rfl hown (mvT hZ (wd205 hw)) (mvT hZ (wd206 hw)) (mvT hZ (wd207 hw)) (by decide) (backOf (W := 1) (rm_l2i la Z a0 hw [] b101 a b h101 n0 O104 A101 f102 f103 g_b101) hZ (wd207 hw) (wd118 hw) (by decide) (by decide)) (g := (mkF mi 6 #[.val (.ref a), .val (.ref b)] [(.ref b), (.ref a), (.ref b101), (.ref b101)])) rfl (by rw [hml]; rfl) (Steps.refl _) (a := b101) (argsL := [(.ref a), (.ref b)]) (rest := [(.ref b101)]) (lenOf pd_15 rfl) rfl (by show 2 * 0 + _ ≤ _; exact Nat.le_of_eq rfl) (hb hby d_jdk_40_method_38_code_6) (fun _ _ => ⟨rfl, e101, (by decide : 1 + 0 ≤ _), (by decide : 2 + 0 ≤ _)⟩)
  dsimp only [Pt.U, Pt.locs, Pt.cells, Pt.slots] at X105 l105 y105 z105 st105 hQ105
  subst l105 y105 z105
  obtain ⟨rfl, Nq105, Kq105, r105_0, r105_1, r105_2⟩ := hQ105
  have N105 := Fr.app N0 Nq105
  obtain ⟨fs, hr, hrun, hended, hW, hsame⟩ := X105.leave (v := some (.ref b101)) (fun hq => by rw [Bd.returns] at hq; cases hq)
  refine ⟨_, _, pre0 _ ?_, hrun, hended, _, _, rfl, ?_, ⟨_, rfl⟩, hW, hsame.mono (by decide) (by decide)⟩
  · show Steps pg.tables ev below (s₁.setTop (mkF mi 0 #[.val (.ref a), .val (.ref b)] [])) _
    refine st101 _ ?_
    show Steps pg.tables ev below (T101.setTop (mkF mi 3 #[.val (.ref a), .val (.ref b)] [(.ref b101)])) _
    refine XS.dup X101.here hx rfl (hb hby d_jdk_40_method_38_code_3) rfl rfl ?_
    refine XS.aloadN X101.here hx rfl (hb hby d_jdk_40_method_38_code_4) rfl rfl ?_
    refine XS.aloadN X101.here hx rfl (hb hby d_jdk_40_method_38_code_5) rfl rfl ?_
    show Steps pg.tables ev below (T101.setTop (mkF mi 6 #[.val (.ref a), .val (.ref b)] [(.ref b), (.ref a), (.ref b101), (.ref b101)])) _
    refine st105.trans ?_
    show Steps pg.tables ev below (T105.setTop (mkF mi 9 #[.val (.ref a), .val (.ref b)] [(.ref b101)])) _
    jvm_step X105.here [X105.here.top, hx, (hb hby d_jdk_40_method_38_code_9), X105.method', Bd.returns, Value.isRef, FieldType.isReference]
    first | (intro acts; rw [hr _ acts rfl rfl rfl]) | rw [hr _ _ rfl rfl rfl]
    exact Steps.refl _
  · show Q_lo2 Z a b hE n0 _ T105.heap _
    exact ⟨b101, rfl, N105, (((Keep.refl hE []).ext E101).trans Kq105 (allS (Or.inr (Nat.le_of_eq q101.symm)) all0)), (Nat.le_of_eq q101.symm), r105_0, r105_1, r105_2⟩
theorem d_jdk_44_method_3_code_0 : decode jdk_44_method_3_code 0 = .ok (.aload_n 0, 1) := by decide +kernel
theorem d_jdk_44_method_3_code_1 : decode jdk_44_method_3_code 1 = .ok (.getfield 24, 3) := by decide +kernel
theorem d_jdk_44_method_3_code_4 : decode jdk_44_method_3_code 4 = .ok (.getstatic 19, 3) := by decide +kernel
theorem d_jdk_44_method_3_code_7 : decode jdk_44_method_3_code 7 = .ok (.if_acmp .eq 7, 3) := by decide +kernel
theorem d_jdk_44_method_3_code_14 : decode jdk_44_method_3_code 14 = .ok (.iconst 1, 1) := by decide +kernel
theorem d_jdk_44_method_3_code_15 : decode jdk_44_method_3_code 15 = .ok (.ireturn, 1) := by decide +kernel
theorem ef_sz1 (mi : MethodId) (l_ : Addr) : entryFrame mi #[(.ref l_)] 1 = mkF mi 0 #[.val (.ref l_)] [] := by first | (simp [entryFrame, mkF, argsToLocals, Value.category]; done) | rfl
def Q_sz1 (Z : State) (l_ : Addr) (em : Addr) (hE : Heap) (n0 : Nat) (vv : Option Value) (hh : Heap) (LL : List Loc) : Prop := (vv = some (.int (1 : Int32))) ∧ (Fr n0 LL) ∧ (hh = hE)
set_option maxRecDepth 65536 in
set_option maxHeartbeats 40000000 in
theorem rm_sz1 (la : Launch) (Z : State) (a0 : Array Value) (hw : ∀ d ∈ tables_1, d.before a0 Z = true) (ws : List Jvm.Cond) (l_ : Addr) (em : Addr) (hE : Heap) (n0 : Nat) (O : Old Z n0 hE) (P0_ : Fld Z hE l_ "java/util/ImmutableCollections$List12" "e1" "Ljava/lang/Object;" (.ref em)) (D0_ : Sta Z Z.heap "java/util/ImmutableCollections" "EMPTY" "Ljava/lang/Object;" (.ref em)) :
    MetFree la mn26 (head1 (Jvm.Cond.code mn26 jdk_44_method_3_code 1 (some .int) :: ws) ({ frames := 0, cells := 0, slots := 0, locals := 0 } : Room)) (fun aa UU => aa = #[(.ref l_)] ∧ Z.Warmed39 UU.vm ∧ UU.heap = hE) (fun _ _ _ _ _ => True) (fun _ UU oo UV => ∃ vv LL, oo = .returned vv ∧ Q_sz1 Z l_ em hE n0 vv UV.heap LL ∧ FrameEnd UU oo UV LL ({ frames := 0, cells := 0, slots := 0, locals := 0 } : Room).cells ({ frames := 0, cells := 0, slots := 0, locals := 0 } : Room).slots) := by
  refine MetFree.of_bodySF (plainFor_of_name pn_java_util_ImmutableCollections_List12) hisR ?_
  intro pg ev sb mi gs below me cd s₁ Bd hml0 hPt hKt
  obtain ⟨rfl, hZ, hh⟩ := hPt
  have hx := Bd.exec
  have hby := Bd.bytes
  have hml : cd.maxLocals = 1 := hml0
  have hown : sb.vm.findClass "java/util/ImmutableCollections$List12" = some mi.cls := findClass_of_methodNamed Bd.named
  have hnm := (name_of_methodNamed Bd.named Bd.method).1
  have X0 : Stand pg la ev ({ frames := 0, cells := 0, slots := 0, locals := 0 } : Room) sb mi #[(.ref l_)] below me cd s₁ [] 0 0 := Stand.of_body Bd
  have eE : s₁.heap = hE := by rw [← hh, Bd.state]; rfl
  have N0 := Fr.nil n0
  have pre0 : ∀ tt, Steps pg.tables ev below (s₁.setTop (mkF mi 0 #[.val (.ref l_)] [])) tt → Steps pg.tables ev below (s₁.setTop (entryFrame mi #[(.ref l_)] 1)) tt := fun tt kk => castTop (ef_sz1 mi l_) kk
  obtain ⟨T101, X101, e101, st101⟩ := getF X0 hx hZ hown (host := "") (Or.inl (wd149 hw)) Via.refl eE P0_ (g := (mkF mi 1 #[.val (.ref l_)] [(.ref l_)])) rfl rfl (hb hby d_jdk_44_method_3_code_1)
  obtain ⟨T102, X102, e102, st102⟩ := getS2 X101 hx hZ hown (Or.inr (wd147 hw)) Via.refl e101 (D0_.ext O.2) (g := (mkF mi 4 #[.val (.ref l_)] [(.ref em)])) rfl (hb hby d_jdk_44_method_3_code_4)
  obtain ⟨fs, hr, hrun, hended, hW, hsame⟩ := X102.leave (v := some (.int (1 : Int32))) (fun hq => by rw [Bd.returns] at hq; cases hq)
  refine ⟨_, _, pre0 _ ?_, hrun, hended, _, _, rfl, ?_, ⟨_, rfl⟩, hW, hsame.mono (by decide) (by decide)⟩
  · show Steps pg.tables ev below (s₁.setTop (mkF mi 0 #[.val (.ref l_)] [])) _
    refine XS.aloadN X0.here hx rfl (hb hby d_jdk_44_method_3_code_0) rfl rfl ?_
    show Steps pg.tables ev below (s₁.setTop (mkF mi 1 #[.val (.ref l_)] [(.ref l_)])) _
    refine st101 _ ?_
    show Steps pg.tables ev below (T101.setTop (mkF mi 4 #[.val (.ref l_)] [(.ref em)])) _
    refine st102 _ ?_
    show Steps pg.tables ev below (T102.setTop (mkF mi 7 #[.val (.ref l_)] [(.ref em), (.ref em)])) _
    refine Jvm.RoadKit.acmp (g := (mkF mi 7 #[.val (.ref l_)] [(.ref em), (.ref em)])) X102 hx rfl rfl rfl (pc0 := 7) (pc' := 14) (same := true) rfl (hb hby d_jdk_44_method_3_code_7) rfl (decide_eq_true rfl) (by decide) (by decide) ?_
    show Steps pg.tables ev below (T102.setTop (mkF mi 14 #[.val (.ref l_)] [])) _
    refine XS.iconst X102.here hx rfl (hb hby d_jdk_44_method_3_code_14) ?_
    show Steps pg.tables ev below (T102.setTop (mkF mi 15 #[.val (.ref l_)] [(.int (1 : Int32))])) _
    exact retI X102 hx Bd.returns (hb hby d_jdk_44_method_3_code_15) hr
  · show Q_sz1 Z l_ em hE n0 _ T102.heap _
    rw [e102]
    exact ⟨rfl, N0, rfl⟩
theorem d_jdk_44_method_3_code_10 : decode jdk_44_method_3_code 10 = .ok (.iconst 2, 1) := by decide +kernel
theorem d_jdk_44_method_3_code_11 : decode jdk_44_method_3_code 11 = .ok (.goto 4, 3) := by decide +kernel
theorem ef_sz2 (mi : MethodId) (l_ : Addr) : entryFrame mi #[(.ref l_)] 1 = mkF mi 0 #[.val (.ref l_)] [] := by first | (simp [entryFrame, mkF, argsToLocals, Value.category]; done) | rfl
def Q_sz2 (Z : State) (l_ : Addr) (b : Addr) (em : Addr) (hE : Heap) (n0 : Nat) (vv : Option Value) (hh : Heap) (LL : List Loc) : Prop := (vv = some (.int (2 : Int32))) ∧ (Fr n0 LL) ∧ (hh = hE)
set_option maxRecDepth 65536 in
set_option maxHeartbeats 40000000 in
theorem rm_sz2 (la : Launch) (Z : State) (a0 : Array Value) (hw : ∀ d ∈ tables_1, d.before a0 Z = true) (ws : List Jvm.Cond) (l_ : Addr) (b : Addr) (em : Addr) (hE : Heap) (n0 : Nat) (O : Old Z n0 hE) (P0_ : Fld Z hE l_ "java/util/ImmutableCollections$List12" "e1" "Ljava/lang/Object;" (.ref b)) (D0_ : Sta Z Z.heap "java/util/ImmutableCollections" "EMPTY" "Ljava/lang/Object;" (.ref em)) (ne_b_em : b ≠ em) :
    MetFree la mn26 (head1 (Jvm.Cond.code mn26 jdk_44_method_3_code 1 (some .int) :: ws) ({ frames := 0, cells := 0, slots := 0, locals := 0 } : Room)) (fun aa UU => aa = #[(.ref l_)] ∧ Z.Warmed39 UU.vm ∧ UU.heap = hE) (fun _ _ _ _ _ => True) (fun _ UU oo UV => ∃ vv LL, oo = .returned vv ∧ Q_sz2 Z l_ b em hE n0 vv UV.heap LL ∧ FrameEnd UU oo UV LL ({ frames := 0, cells := 0, slots := 0, locals := 0 } : Room).cells ({ frames := 0, cells := 0, slots := 0, locals := 0 } : Room).slots) := by
  refine MetFree.of_bodySF (plainFor_of_name pn_java_util_ImmutableCollections_List12) hisR ?_
  intro pg ev sb mi gs below me cd s₁ Bd hml0 hPt hKt
  obtain ⟨rfl, hZ, hh⟩ := hPt
  have hx := Bd.exec
  have hby := Bd.bytes
  have hml : cd.maxLocals = 1 := hml0
  have hown : sb.vm.findClass "java/util/ImmutableCollections$List12" = some mi.cls := findClass_of_methodNamed Bd.named
  have hnm := (name_of_methodNamed Bd.named Bd.method).1
  have X0 : Stand pg la ev ({ frames := 0, cells := 0, slots := 0, locals := 0 } : Room) sb mi #[(.ref l_)] below me cd s₁ [] 0 0 := Stand.of_body Bd
  have eE : s₁.heap = hE := by rw [← hh, Bd.state]; rfl
  have N0 := Fr.nil n0
  have pre0 : ∀ tt, Steps pg.tables ev below (s₁.setTop (mkF mi 0 #[.val (.ref l_)] [])) tt → Steps pg.tables ev below (s₁.setTop (entryFrame mi #[(.ref l_)] 1)) tt := fun tt kk => castTop (ef_sz2 mi l_) kk
  obtain ⟨T101, X101, e101, st101⟩ := getF X0 hx hZ hown (host := "") (Or.inl (wd149 hw)) Via.refl eE P0_ (g := (mkF mi 1 #[.val (.ref l_)] [(.ref l_)])) rfl rfl (hb hby d_jdk_44_method_3_code_1)
  obtain ⟨T102, X102, e102, st102⟩ := getS2 X101 hx hZ hown (Or.inr (wd147 hw)) Via.refl e101 (D0_.ext O.2) (g := (mkF mi 4 #[.val (.ref l_)] [(.ref b)])) rfl (hb hby d_jdk_44_method_3_code_4)
  obtain ⟨fs, hr, hrun, hended, hW, hsame⟩ := X102.leave (v := some (.int (2 : Int32))) (fun hq => by rw [Bd.returns] at hq; cases hq)
  refine ⟨_, _, pre0 _ ?_, hrun, hended, _, _, rfl, ?_, ⟨_, rfl⟩, hW, hsame.mono (by decide) (by decide)⟩
  · show Steps pg.tables ev below (s₁.setTop (mkF mi 0 #[.val (.ref l_)] [])) _
    refine XS.aloadN X0.here hx rfl (hb hby d_jdk_44_method_3_code_0) rfl rfl ?_
    show Steps pg.tables ev below (s₁.setTop (mkF mi 1 #[.val (.ref l_)] [(.ref l_)])) _
    refine st101 _ ?_
    show Steps pg.tables ev below (T101.setTop (mkF mi 4 #[.val (.ref l_)] [(.ref b)])) _
    refine st102 _ ?_
    show Steps pg.tables ev below (T102.setTop (mkF mi 7 #[.val (.ref l_)] [(.ref em), (.ref b)])) _
    refine Jvm.RoadKit.acmp (g := (mkF mi 7 #[.val (.ref l_)] [(.ref em), (.ref b)])) X102 hx rfl rfl rfl (pc0 := 7) (pc' := 10) (same := false) rfl (hb hby d_jdk_44_method_3_code_7) rfl (decide_eq_false (fun q => ne_b_em (Value.ref.inj q))) (by decide) (by decide) ?_
    show Steps pg.tables ev below (T102.setTop (mkF mi 10 #[.val (.ref l_)] [])) _
    refine XS.iconst X102.here hx rfl (hb hby d_jdk_44_method_3_code_10) ?_
    refine XS.goto X102.here hx rfl (pc0 := 11) (pc' := 15) rfl (hb hby d_jdk_44_method_3_code_11) (by decide) (by decide) ?_
    show Steps pg.tables ev below (T102.setTop (mkF mi 15 #[.val (.ref l_)] [(.int (2 : Int32))])) _
    exact retI X102 hx Bd.returns (hb hby d_jdk_44_method_3_code_15) hr
  · show Q_sz2 Z l_ b em hE n0 _ T102.heap _
    rw [e102]
    exact ⟨rfl, N0, rfl⟩
theorem d_jdk_44_method_5_code_0 : decode jdk_44_method_5_code 0 = .ok (.iload_n 1, 1) := by decide +kernel
theorem d_jdk_44_method_5_code_1 : decode jdk_44_method_5_code 1 = .ok (.ifCond .ne 8, 3) := by decide +kernel
theorem d_jdk_44_method_5_code_4 : decode jdk_44_method_5_code 4 = .ok (.aload_n 0, 1) := by decide +kernel
theorem d_jdk_44_method_5_code_5 : decode jdk_44_method_5_code 5 = .ok (.getfield 13, 3) := by decide +kernel
theorem d_jdk_44_method_5_code_8 : decode jdk_44_method_5_code 8 = .ok (.areturn, 1) := by decide +kernel
theorem ef_get0 (mi : MethodId) (l_ : Addr) : entryFrame mi #[(.ref l_), (.int (0 : Int32))] 2 = mkF mi 0 #[.val (.ref l_), .val (.int (0 : Int32))] [] := by first | (simp [entryFrame, mkF, argsToLocals, Value.category]; done) | rfl
def Q_get0 (Z : State) (l_ : Addr) (a : Addr) (hE : Heap) (n0 : Nat) (vv : Option Value) (hh : Heap) (LL : List Loc) : Prop := (vv = some (.ref a)) ∧ (Fr n0 LL) ∧ (hh = hE)
set_option maxRecDepth 65536 in
set_option maxHeartbeats 40000000 in
theorem rm_get0 (la : Launch) (Z : State) (a0 : Array Value) (hw : ∀ d ∈ tables_1, d.before a0 Z = true) (ws : List Jvm.Cond) (l_ : Addr) (a : Addr) (hE : Heap) (n0 : Nat) (O : Old Z n0 hE) (P0_ : Fld Z hE l_ "java/util/ImmutableCollections$List12" "e0" "Ljava/lang/Object;" (.ref a)) :
    MetFree la mn27 (head1 (Jvm.Cond.code mn27 jdk_44_method_5_code 2 (some (.object "java/lang/Object")) :: ws) ({ frames := 0, cells := 0, slots := 0, locals := 0 } : Room)) (fun aa UU => aa = #[(.ref l_), (.int (0 : Int32))] ∧ Z.Warmed39 UU.vm ∧ UU.heap = hE) (fun _ _ _ _ _ => True) (fun _ UU oo UV => ∃ vv LL, oo = .returned vv ∧ Q_get0 Z l_ a hE n0 vv UV.heap LL ∧ FrameEnd UU oo UV LL ({ frames := 0, cells := 0, slots := 0, locals := 0 } : Room).cells ({ frames := 0, cells := 0, slots := 0, locals := 0 } : Room).slots) := by
  refine MetFree.of_bodySF (plainFor_of_name pn_java_util_ImmutableCollections_List12) hisR ?_
  intro pg ev sb mi gs below me cd s₁ Bd hml0 hPt hKt
  obtain ⟨rfl, hZ, hh⟩ := hPt
  have hx := Bd.exec
  have hby := Bd.bytes
  have hml : cd.maxLocals = 2 := hml0
  have hown : sb.vm.findClass "java/util/ImmutableCollections$List12" = some mi.cls := findClass_of_methodNamed Bd.named
  have hnm := (name_of_methodNamed Bd.named Bd.method).1
  have X0 : Stand pg la ev ({ frames := 0, cells := 0, slots := 0, locals := 0 } : Room) sb mi #[(.ref l_), (.int (0 : Int32))] below me cd s₁ [] 0 0 := Stand.of_body Bd
  have eE : s₁.heap = hE := by rw [← hh, Bd.state]; rfl
  have N0 := Fr.nil n0
  have pre0 : ∀ tt, Steps pg.tables ev below (s₁.setTop (mkF mi 0 #[.val (.ref l_), .val (.int (0 : Int32))] [])) tt → Steps pg.tables ev below (s₁.setTop (entryFrame mi #[(.ref l_), (.int (0 : Int32))] 2)) tt := fun tt kk => castTop (ef_get0 mi l_) kk
  obtain ⟨T101, X101, e101, st101⟩ := getF X0 hx hZ hown (host := "") (Or.inl (wd145 hw)) Via.refl eE P0_ (g := (mkF mi 5 #[.val (.ref l_), .val (.int (0 : Int32))] [(.ref l_)])) rfl rfl (hb hby d_jdk_44_method_5_code_5)
  obtain ⟨fs, hr, hrun, hended, hW, hsame⟩ := X101.leave (v := some (.ref a)) (fun hq => by rw [Bd.returns] at hq; cases hq)
  refine ⟨_, _, pre0 _ ?_, hrun, hended, _, _, rfl, ?_, ⟨_, rfl⟩, hW, hsame.mono (by decide) (by decide)⟩
  · show Steps pg.tables ev below (s₁.setTop (mkF mi 0 #[.val (.ref l_), .val (.int (0 : Int32))] [])) _
    refine XS.iloadN X0.here hx rfl (hb hby d_jdk_44_method_5_code_0) rfl ?_
    refine XS.ifNo X0.here hx rfl (hb hby d_jdk_44_method_5_code_1) rfl ((if0 _ _).trans (teq (rfl : (0 : Int32) = (0 : Int32))).2) ?_
    refine XS.aloadN X0.here hx rfl (hb hby d_jdk_44_method_5_code_4) rfl rfl ?_
    show Steps pg.tables ev below (s₁.setTop (mkF mi 5 #[.val (.ref l_), .val (.int (0 : Int32))] [(.ref l_)])) _
    refine st101 _ ?_
    show Steps pg.tables ev below (T101.setTop (mkF mi 8 #[.val (.ref l_), .val (.int (0 : Int32))] [(.ref a)])) _
    jvm_step X101.here [X101.here.top, hx, (hb hby d_jdk_44_method_5_code_8), X101.method', Bd.returns, Value.isRef, FieldType.isReference]
    first | (intro acts; rw [hr _ acts rfl rfl rfl]) | rw [hr _ _ rfl rfl rfl]
    exact Steps.refl _
  · show Q_get0 Z l_ a hE n0 _ T101.heap _
    rw [e101]
    exact ⟨rfl, N0, rfl⟩
theorem d_jdk_44_method_5_code_9 : decode jdk_44_method_5_code 9 = .ok (.iload_n 1, 1) := by decide +kernel
theorem d_jdk_44_method_5_code_10 : decode jdk_44_method_5_code 10 = .ok (.iconst 1, 1) := by decide +kernel
theorem d_jdk_44_method_5_code_11 : decode jdk_44_method_5_code 11 = .ok (.if_icmp .ne 18, 3) := by decide +kernel
theorem d_jdk_44_method_5_code_14 : decode jdk_44_method_5_code 14 = .ok (.aload_n 0, 1) := by decide +kernel
theorem d_jdk_44_method_5_code_15 : decode jdk_44_method_5_code 15 = .ok (.getfield 24, 3) := by decide +kernel
theorem d_jdk_44_method_5_code_18 : decode jdk_44_method_5_code 18 = .ok (.getstatic 19, 3) := by decide +kernel
theorem d_jdk_44_method_5_code_21 : decode jdk_44_method_5_code 21 = .ok (.if_acmp .eq 8, 3) := by decide +kernel
theorem d_jdk_44_method_5_code_24 : decode jdk_44_method_5_code 24 = .ok (.aload_n 0, 1) := by decide +kernel
theorem d_jdk_44_method_5_code_25 : decode jdk_44_method_5_code 25 = .ok (.getfield 24, 3) := by decide +kernel
theorem d_jdk_44_method_5_code_28 : decode jdk_44_method_5_code 28 = .ok (.areturn, 1) := by decide +kernel
theorem ef_get1 (mi : MethodId) (l_ : Addr) : entryFrame mi #[(.ref l_), (.int (1 : Int32))] 2 = mkF mi 0 #[.val (.ref l_), .val (.int (1 : Int32))] [] := by first | (simp [entryFrame, mkF, argsToLocals, Value.category]; done) | rfl
def Q_get1 (Z : State) (l_ : Addr) (b : Addr) (em : Addr) (hE : Heap) (n0 : Nat) (vv : Option Value) (hh : Heap) (LL : List Loc) : Prop := (vv = some (.ref b)) ∧ (Fr n0 LL) ∧ (hh = hE)
set_option maxRecDepth 65536 in
set_option maxHeartbeats 40000000 in
theorem rm_get1 (la : Launch) (Z : State) (a0 : Array Value) (hw : ∀ d ∈ tables_1, d.before a0 Z = true) (ws : List Jvm.Cond) (l_ : Addr) (b : Addr) (em : Addr) (hE : Heap) (n0 : Nat) (O : Old Z n0 hE) (P0_ : Fld Z hE l_ "java/util/ImmutableCollections$List12" "e1" "Ljava/lang/Object;" (.ref b)) (D0_ : Sta Z Z.heap "java/util/ImmutableCollections" "EMPTY" "Ljava/lang/Object;" (.ref em)) (ne_b_em : b ≠ em) :
    MetFree la mn27 (head1 (Jvm.Cond.code mn27 jdk_44_method_5_code 2 (some (.object "java/lang/Object")) :: ws) ({ frames := 0, cells := 0, slots := 0, locals := 0 } : Room)) (fun aa UU => aa = #[(.ref l_), (.int (1 : Int32))] ∧ Z.Warmed39 UU.vm ∧ UU.heap = hE) (fun _ _ _ _ _ => True) (fun _ UU oo UV => ∃ vv LL, oo = .returned vv ∧ Q_get1 Z l_ b em hE n0 vv UV.heap LL ∧ FrameEnd UU oo UV LL ({ frames := 0, cells := 0, slots := 0, locals := 0 } : Room).cells ({ frames := 0, cells := 0, slots := 0, locals := 0 } : Room).slots) := by
  refine MetFree.of_bodySF (plainFor_of_name pn_java_util_ImmutableCollections_List12) hisR ?_
  intro pg ev sb mi gs below me cd s₁ Bd hml0 hPt hKt
  obtain ⟨rfl, hZ, hh⟩ := hPt
  have hx := Bd.exec
  have hby := Bd.bytes
  have hml : cd.maxLocals = 2 := hml0
  have hown : sb.vm.findClass "java/util/ImmutableCollections$List12" = some mi.cls := findClass_of_methodNamed Bd.named
  have hnm := (name_of_methodNamed Bd.named Bd.method).1
  have X0 : Stand pg la ev ({ frames := 0, cells := 0, slots := 0, locals := 0 } : Room) sb mi #[(.ref l_), (.int (1 : Int32))] below me cd s₁ [] 0 0 := Stand.of_body Bd
  have eE : s₁.heap = hE := by rw [← hh, Bd.state]; rfl
  have N0 := Fr.nil n0
  have pre0 : ∀ tt, Steps pg.tables ev below (s₁.setTop (mkF mi 0 #[.val (.ref l_), .val (.int (1 : Int32))] [])) tt → Steps pg.tables ev below (s₁.setTop (entryFrame mi #[(.ref l_), (.int (1 : Int32))] 2)) tt := fun tt kk => castTop (ef_get1 mi l_) kk
  obtain ⟨T101, X101, e101, st101⟩ := getF X0 hx hZ hown (host := "") (Or.inl (wd149 hw)) Via.refl eE P0_ (g := (mkF mi 15 #[.val (.ref l_), .val (.int (1 : Int32))] [(.ref l_)])) rfl rfl (hb hby d_jdk_44_method_5_code_15)
  obtain ⟨T102, X102, e102, st102⟩ := getS2 X101 hx hZ hown (Or.inr (wd147 hw)) Via.refl e101 (D0_.ext O.2) (g := (mkF mi 18 #[.val (.ref l_), .val (.int (1 : Int32))] [(.ref b)])) rfl (hb hby d_jdk_44_method_5_code_18)
  obtain ⟨T103, X103, e103, st103⟩ := getF X102 hx hZ hown (host := "") (Or.inl (wd149 hw)) Via.refl e102 P0_ (g := (mkF mi 25 #[.val (.ref l_), .val (.int (1 : Int32))] [(.ref l_)])) rfl rfl (hb hby d_jdk_44_method_5_code_25)
  obtain ⟨fs, hr, hrun, hended, hW, hsame⟩ := X103.leave (v := some (.ref b)) (fun hq => by rw [Bd.returns] at hq; cases hq)
  refine ⟨_, _, pre0 _ ?_, hrun, hended, _, _, rfl, ?_, ⟨_, rfl⟩, hW, hsame.mono (by decide) (by decide)⟩
  · show Steps pg.tables ev below (s₁.setTop (mkF mi 0 #[.val (.ref l_), .val (.int (1 : Int32))] [])) _
    refine XS.iloadN X0.here hx rfl (hb hby d_jdk_44_method_5_code_0) rfl ?_
    refine XS.ifYes X0.here hx rfl (pc0 := 1) (pc' := 9) rfl (hb hby d_jdk_44_method_5_code_1) rfl ((if0 _ _).trans (feq (by decide : ¬ ((1 : Int32) = (0 : Int32)))).2) (by decide) (by decide) ?_
    refine XS.iloadN X0.here hx rfl (hb hby d_jdk_44_method_5_code_9) rfl ?_
    refine XS.iconst X0.here hx rfl (hb hby d_jdk_44_method_5_code_10) ?_
    refine XS.icmpNo X0.here hx rfl (hb hby d_jdk_44_method_5_code_11) rfl (teq (rfl : (1 : Int32) = (1 : Int32))).2 ?_
    refine XS.aloadN X0.here hx rfl (hb hby d_jdk_44_method_5_code_14) rfl rfl ?_
    show Steps pg.tables ev below (s₁.setTop (mkF mi 15 #[.val (.ref l_), .val (.int (1 : Int32))] [(.ref l_)])) _
    refine st101 _ ?_
    show Steps pg.tables ev below (T101.setTop (mkF mi 18 #[.val (.ref l_), .val (.int (1 : Int32))] [(.ref b)])) _
    refine st102 _ ?_
    show Steps pg.tables ev below (T102.setTop (mkF mi 21 #[.val (.ref l_), .val (.int (1 : Int32))] [(.ref em), (.ref b)])) _
    refine Jvm.RoadKit.acmp (g := (mkF mi 21 #[.val (.ref l_), .val (.int (1 : Int32))] [(.ref em), (.ref b)])) X102 hx rfl rfl rfl (pc0 := 21) (pc' := 24) (same := false) rfl (hb hby d_jdk_44_method_5_code_21) rfl (decide_eq_false (fun q => ne_b_em (Value.ref.inj q))) (by decide) (by decide) ?_
    show Steps pg.tables ev below (T102.setTop (mkF mi 24 #[.val (.ref l_), .val (.int (1 : Int32))] [])) _
    refine XS.aloadN X102.here hx rfl (hb hby d_jdk_44_method_5_code_24) rfl rfl ?_
    show Steps pg.tables ev below (T102.setTop (mkF mi 25 #[.val (.ref l_), .val (.int (1 : Int32))] [(.ref l_)])) _
    refine st103 _ ?_
    show Steps pg.tables ev below (T103.setTop (mkF mi 28 #[.val (.ref l_), .val (.int (1 : Int32))] [(.ref b)])) _
    jvm_step X103.here [X103.here.top, hx, (hb hby d_jdk_44_method_5_code_28), X103.method', Bd.returns, Value.isRef, FieldType.isReference]
    first | (intro acts; rw [hr _ acts rfl rfl rfl]) | rw [hr _ _ rfl rfl rfl]
    exact Steps.refl _
  · show Q_get1 Z l_ b em hE n0 _ T103.heap _
    rw [e103]
    exact ⟨rfl, N0, rfl⟩
theorem d_prog_9_method_12_code_0 : decode prog_9_method_12_code 0 = .ok (.aload_n 0, 1) := by decide +kernel
theorem d_prog_9_method_12_code_1 : decode prog_9_method_12_code 1 = .ok (.getfield 31, 3) := by decide +kernel
theorem d_prog_9_method_12_code_4 : decode prog_9_method_12_code 4 = .ok (.areturn, 1) := by decide +kernel
theorem ef_g_appName (mi : MethodId) (g : Addr) : entryFrame mi #[(.ref g)] 1 = mkF mi 0 #[.val (.ref g)] [] := by first | (simp [entryFrame, mkF, argsToLocals, Value.category]; done) | rfl
def Q_g_appName (Z : State) (g : Addr) (x : Addr) (hE : Heap) (n0 : Nat) (vv : Option Value) (hh : Heap) (LL : List Loc) : Prop := (vv = some (.ref x)) ∧ (Fr n0 LL) ∧ (hh = hE)
set_option maxRecDepth 65536 in
set_option maxHeartbeats 40000000 in
theorem rm_g_appName (la : Launch) (Z : State) (a0 : Array Value) (hw : ∀ d ∈ tables_1, d.before a0 Z = true) (ws : List Jvm.Cond) (g : Addr) (x : Addr) (hE : Heap) (n0 : Nat) (O : Old Z n0 hE) (P0_ : Fld Z hE g "com/example/beanloft/beanloft/naming/GlobalName" "appName" "Ljava/lang/String;" (.ref x)) :
    MetFree la mn28 (head1 (Jvm.Cond.code mn28 prog_9_method_12_code 1 (some (.object "java/lang/String")) :: ws) ({ frames := 0, cells := 0, slots := 0, locals := 0 } : Room)) (fun aa UU => aa = #[(.ref g)] ∧ Z.Warmed39 UU.vm ∧ UU.heap = hE) (fun _ _ _ _ _ => True) (fun _ UU oo UV => ∃ vv LL, oo = .returned vv ∧ Q_g_appName Z g x hE n0 vv UV.heap LL ∧ FrameEnd UU oo UV LL ({ frames := 0, cells := 0, slots := 0, locals := 0 } : Room).cells ({ frames := 0, cells := 0, slots := 0, locals := 0 } : Room).slots) := by
  refine MetFree.of_bodySF (plainFor_of_name pn_com_example_beanloft_beanloft_naming_GlobalName) hisR ?_
  intro pg ev sb mi gs below me cd s₁ Bd hml0 hPt hKt
  obtain ⟨rfl, hZ, hh⟩ := hPt
  have hx := Bd.exec
  have hby := Bd.bytes
  have hml : cd.maxLocals = 1 := hml0
  have hown : sb.vm.findClass "com/example/beanloft/beanloft/naming/GlobalName" = some mi.cls := findClass_of_methodNamed Bd.named
  have hnm := (name_of_methodNamed Bd.named Bd.method).1
  have X0 : Stand pg la ev ({ frames := 0, cells := 0, slots := 0, locals := 0 } : Room) sb mi #[(.ref g)] below me cd s₁ [] 0 0 := Stand.of_body Bd
  have eE : s₁.heap = hE := by rw [← hh, Bd.state]; rfl
  have N0 := Fr.nil n0
  have pre0 : ∀ tt, Steps pg.tables ev below (s₁.setTop (mkF mi 0 #[.val (.ref g)] [])) tt → Steps pg.tables ev below (s₁.setTop (entryFrame mi #[(.ref g)] 1)) tt := fun tt kk => castTop (ef_g_appName mi g) kk
  obtain ⟨T101, X101, e101, st101⟩ := getF X0 hx hZ hown (host := "") (Or.inl (wd99 hw)) Via.refl eE P0_ (g := (mkF mi 1 #[.val (.ref g)] [(.ref g)])) rfl rfl (hb hby d_prog_9_method_12_code_1)
  obtain ⟨fs, hr, hrun, hended, hW, hsame⟩ := X101.leave (v := some (.ref x)) (fun hq => by rw [Bd.returns] at hq; cases hq)
  refine ⟨_, _, pre0 _ ?_, hrun, hended, _, _, rfl, ?_, ⟨_, rfl⟩, hW, hsame.mono (by decide) (by decide)⟩
  · show Steps pg.tables ev below (s₁.setTop (mkF mi 0 #[.val (.ref g)] [])) _
    refine XS.aloadN X0.here hx rfl (hb hby d_prog_9_method_12_code_0) rfl rfl ?_
    show Steps pg.tables ev below (s₁.setTop (mkF mi 1 #[.val (.ref g)] [(.ref g)])) _
    refine st101 _ ?_
    show Steps pg.tables ev below (T101.setTop (mkF mi 4 #[.val (.ref g)] [(.ref x)])) _
    jvm_step X101.here [X101.here.top, hx, (hb hby d_prog_9_method_12_code_4), X101.method', Bd.returns, Value.isRef, FieldType.isReference]
    first | (intro acts; rw [hr _ acts rfl rfl rfl]) | rw [hr _ _ rfl rfl rfl]
    exact Steps.refl _
  · show Q_g_appName Z g x hE n0 _ T101.heap _
    rw [e101]
    exact ⟨rfl, N0, rfl⟩
theorem ef_gN_appName (mi : MethodId) (g : Addr) : entryFrame mi #[(.ref g)] 1 = mkF mi 0 #[.val (.ref g)] [] := by first | (simp [entryFrame, mkF, argsToLocals, Value.category]; done) | rfl
def Q_gN_appName (Z : State) (g : Addr) (hE : Heap) (n0 : Nat) (vv : Option Value) (hh : Heap) (LL : List Loc) : Prop := (vv = some .null) ∧ (Fr n0 LL) ∧ (hh = hE)
set_option maxRecDepth 65536 in
set_option maxHeartbeats 40000000 in
theorem rm_gN_appName (la : Launch) (Z : State) (a0 : Array Value) (hw : ∀ d ∈ tables_1, d.before a0 Z = true) (ws : List Jvm.Cond) (g : Addr) (hE : Heap) (n0 : Nat) (O : Old Z n0 hE) (P0_ : Fld Z hE g "com/example/beanloft/beanloft/naming/GlobalName" "appName" "Ljava/lang/String;" .null) :
    MetFree la mn28 (head1 (Jvm.Cond.code mn28 prog_9_method_12_code 1 (some (.object "java/lang/String")) :: ws) ({ frames := 0, cells := 0, slots := 0, locals := 0 } : Room)) (fun aa UU => aa = #[(.ref g)] ∧ Z.Warmed39 UU.vm ∧ UU.heap = hE) (fun _ _ _ _ _ => True) (fun _ UU oo UV => ∃ vv LL, oo = .returned vv ∧ Q_gN_appName Z g hE n0 vv UV.heap LL ∧ FrameEnd UU oo UV LL ({ frames := 0, cells := 0, slots := 0, locals := 0 } : Room).cells ({ frames := 0, cells := 0, slots := 0, locals := 0 } : Room).slots) := by
  refine MetFree.of_bodySF (plainFor_of_name pn_com_example_beanloft_beanloft_naming_GlobalName) hisR ?_
  intro pg ev sb mi gs below me cd s₁ Bd hml0 hPt hKt
  obtain ⟨rfl, hZ, hh⟩ := hPt
  have hx := Bd.exec
  have hby := Bd.bytes
  have hml : cd.maxLocals = 1 := hml0
  have hown : sb.vm.findClass "com/example/beanloft/beanloft/naming/GlobalName" = some mi.cls := findClass_of_methodNamed Bd.named
  have hnm := (name_of_methodNamed Bd.named Bd.method).1
  have X0 : Stand pg la ev ({ frames := 0, cells := 0, slots := 0, locals := 0 } : Room) sb mi #[(.ref g)] below me cd s₁ [] 0 0 := Stand.of_body Bd
  have eE : s₁.heap = hE := by rw [← hh, Bd.state]; rfl
  have N0 := Fr.nil n0
  have pre0 : ∀ tt, Steps pg.tables ev below (s₁.setTop (mkF mi 0 #[.val (.ref g)] [])) tt → Steps pg.tables ev below (s₁.setTop (entryFrame mi #[(.ref g)] 1)) tt := fun tt kk => castTop (ef_gN_appName mi g) kk
  obtain ⟨T101, X101, e101, st101⟩ := getF X0 hx hZ hown (host := "") (Or.inl (wd99 hw)) Via.refl eE P0_ (g := (mkF mi 1 #[.val (.ref g)] [(.ref g)])) rfl rfl (hb hby d_prog_9_method_12_code_1)
  obtain ⟨fs, hr, hrun, hended, hW, hsame⟩ := X101.leave (v := some .null) (fun hq => by rw [Bd.returns] at hq; cases hq)
  refine ⟨_, _, pre0 _ ?_, hrun, hended, _, _, rfl, ?_, ⟨_, rfl⟩, hW, hsame.mono (by decide) (by decide)⟩
  · show Steps pg.tables ev below (s₁.setTop (mkF mi 0 #[.val (.ref g)] [])) _
    refine XS.aloadN X0.here hx rfl (hb hby d_prog_9_method_12_code_0) rfl rfl ?_
    show Steps pg.tables ev below (s₁.setTop (mkF mi 1 #[.val (.ref g)] [(.ref g)])) _
    refine st101 _ ?_
    show Steps pg.tables ev below (T101.setTop (mkF mi 4 #[.val (.ref g)] [.null])) _
    jvm_step X101.here [X101.here.top, hx, (hb hby d_prog_9_method_12_code_4), X101.method', Bd.returns, Value.isRef, FieldType.isReference]
    first | (intro acts; rw [hr _ acts rfl rfl rfl]) | rw [hr _ _ rfl rfl rfl]
    exact Steps.refl _
  · show Q_gN_appName Z g hE n0 _ T101.heap _
    rw [e101]
    exact ⟨rfl, N0, rfl⟩
theorem d_prog_9_method_13_code_0 : decode prog_9_method_13_code 0 = .ok (.aload_n 0, 1) := by decide +kernel
theorem d_prog_9_method_13_code_1 : decode prog_9_method_13_code 1 = .ok (.getfield 35, 3) := by decide +kernel
theorem d_prog_9_method_13_code_4 : decode prog_9_method_13_code 4 = .ok (.areturn, 1) := by decide +kernel
theorem ef_g_moduleName (mi : MethodId) (g : Addr) : entryFrame mi #[(.ref g)] 1 = mkF mi 0 #[.val (.ref g)] [] := by first | (simp [entryFrame, mkF, argsToLocals, Value.category]; done) | rfl
def Q_g_moduleName (Z : State) (g : Addr) (x : Addr) (hE : Heap) (n0 : Nat) (vv : Option Value) (hh : Heap) (LL : List Loc) : Prop := (vv = some (.ref x)) ∧ (Fr n0 LL) ∧ (hh = hE)
set_option maxRecDepth 65536 in
set_option maxHeartbeats 40000000 in
theorem rm_g_moduleName (la : Launch) (Z : State) (a0 : Array Value) (hw : ∀ d ∈ tables_1, d.before a0 Z = true) (ws : List Jvm.Cond) (g : Addr) (x : Addr) (hE : Heap) (n0 : Nat) (O : Old Z n0 hE) (P0_ : Fld Z hE g "com/example/beanloft/beanloft/naming/GlobalName" "moduleName" "Ljava/lang/String;" (.ref x)) :
    MetFree la mn29 (head1 (Jvm.Cond.code mn29 prog_9_method_13_code 1 (some (.object "java/lang/String")) :: ws) ({ frames := 0, cells := 0, slots := 0, locals := 0 } : Room)) (fun aa UU => aa = #[(.ref g)] ∧ Z.Warmed39 UU.vm ∧ UU.heap = hE) (fun _ _ _ _ _ => True) (fun _ UU oo UV => ∃ vv LL, oo = .returned vv ∧ Q_g_moduleName Z g x hE n0 vv UV.heap LL ∧ FrameEnd UU oo UV LL ({ frames := 0, cells := 0, slots := 0, locals := 0 } : Room).cells ({ frames := 0, cells := 0, slots := 0, locals := 0 } : Room).slots) := by
  refine MetFree.of_bodySF (plainFor_of_name pn_com_example_beanloft_beanloft_naming_GlobalName) hisR ?_
  intro pg ev sb mi gs below me cd s₁ Bd hml0 hPt hKt
  obtain ⟨rfl, hZ, hh⟩ := hPt
  have hx := Bd.exec
  have hby := Bd.bytes
  have hml : cd.maxLocals = 1 := hml0
  have hown : sb.vm.findClass "com/example/beanloft/beanloft/naming/GlobalName" = some mi.cls := findClass_of_methodNamed Bd.named
  have hnm := (name_of_methodNamed Bd.named Bd.method).1
  have X0 : Stand pg la ev ({ frames := 0, cells := 0, slots := 0, locals := 0 } : Room) sb mi #[(.ref g)] below me cd s₁ [] 0 0 := Stand.of_body Bd
  have eE : s₁.heap = hE := by rw [← hh, Bd.state]; rfl
  have N0 := Fr.nil n0
  have pre0 : ∀ tt, Steps pg.tables ev below (s₁.setTop (mkF mi 0 #[.val (.ref g)] [])) tt → Steps pg.tables ev below (s₁.setTop (entryFrame mi #[(.ref g)] 1)) tt := fun tt kk => castTop (ef_g_moduleName mi g) kk
  obtain ⟨T101, X101, e101, st101⟩ := getF X0 hx hZ hown (host := "") (Or.inl (wd101 hw)) Via.refl eE P0_ (g := (mkF mi 1 #[.val (.ref g)] [(.ref g)])) rfl rfl (hb hby d_prog_9_method_13_code_1)
  obtain ⟨fs, hr, hrun, hended, hW, hsame⟩ := X101.leave (v := some (.ref x)) (fun hq => by rw [Bd.returns] at hq; cases hq)
  refine ⟨_, _, pre0 _ ?_, hrun, hended, _, _, rfl, ?_, ⟨_, rfl⟩, hW, hsame.mono (by decide) (by decide)⟩
  · show Steps pg.tables ev below (s₁.setTop (mkF mi 0 #[.val (.ref g)] [])) _
    refine XS.aloadN X0.here hx rfl (hb hby d_prog_9_method_13_code_0) rfl rfl ?_
    show Steps pg.tables ev below (s₁.setTop (mkF mi 1 #[.val (.ref g)] [(.ref g)])) _
    refine st101 _ ?_
    show Steps pg.tables ev below (T101.setTop (mkF mi 4 #[.val (.ref g)] [(.ref x)])) _
    jvm_step X101.here [X101.here.top, hx, (hb hby d_prog_9_method_13_code_4), X101.method', Bd.returns, Value.isRef, FieldType.isReference]
    first | (intro acts; rw [hr _ acts rfl rfl rfl]) | rw [hr _ _ rfl rfl rfl]
    exact Steps.refl _
  · show Q_g_moduleName Z g x hE n0 _ T101.heap _
    rw [e101]
    exact ⟨rfl, N0, rfl⟩
theorem d_prog_9_method_14_code_0 : decode prog_9_method_14_code 0 = .ok (.aload_n 0, 1) := by decide +kernel
theorem d_prog_9_method_14_code_1 : decode prog_9_method_14_code 1 = .ok (.getfield 37, 3) := by decide +kernel
theorem d_prog_9_method_14_code_4 : decode prog_9_method_14_code 4 = .ok (.areturn, 1) := by decide +kernel
theorem ef_g_beanName (mi : MethodId) (g : Addr) : entryFrame mi #[(.ref g)] 1 = mkF mi 0 #[.val (.ref g)] [] := by first | (simp [entryFrame, mkF, argsToLocals, Value.category]; done) | rfl
def Q_g_beanName (Z : State) (g : Addr) (x : Addr) (hE : Heap) (n0 : Nat) (vv : Option Value) (hh : Heap) (LL : List Loc) : Prop := (vv = some (.ref x)) ∧ (Fr n0 LL) ∧ (hh = hE)
set_option maxRecDepth 65536 in
set_option maxHeartbeats 40000000 in
theorem rm_g_beanName (la : Launch) (Z : State) (a0 : Array Value) (hw : ∀ d ∈ tables_1, d.before a0 Z = true) (ws : List Jvm.Cond) (g : Addr) (x : Addr) (hE : Heap) (n0 : Nat) (O : Old Z n0 hE) (P0_ : Fld Z hE g "com/example/beanloft/beanloft/naming/GlobalName" "beanName" "Ljava/lang/String;" (.ref x)) :
    MetFree la mn30 (head1 (Jvm.Cond.code mn30 prog_9_method_14_code 1 (some (.object "java/lang/String")) :: ws) ({ frames := 0, cells := 0, slots := 0, locals := 0 } : Room)) (fun aa UU => aa = #[(.ref g)] ∧ Z.Warmed39 UU.vm ∧ UU.heap = hE) (fun _ _ _ _ _ => True) (fun _ UU oo UV => ∃ vv LL, oo = .returned vv ∧ Q_g_beanName Z g x hE n0 vv UV.heap LL ∧ FrameEnd UU oo UV LL ({ frames := 0, cells := 0, slots := 0, locals := 0 } : Room).cells ({ frames := 0, cells := 0, slots := 0, locals := 0 } : Room).slots) := by
  refine MetFree.of_bodySF (plainFor_of_name pn_com_example_beanloft_beanloft_naming_GlobalName) hisR ?_
  intro pg ev sb mi gs below me cd s₁ Bd hml0 hPt hKt
  obtain ⟨rfl, hZ, hh⟩ := hPt
  have hx := Bd.exec
  have hby := Bd.bytes
  have hml : cd.maxLocals = 1 := hml0
  have hown : sb.vm.findClass "com/example/beanloft/beanloft/naming/GlobalName" = some mi.cls := findClass_of_methodNamed Bd.named
  have hnm := (name_of_methodNamed Bd.named Bd.method).1
  have X0 : Stand pg la ev ({ frames := 0, cells := 0, slots := 0, locals := 0 } : Room) sb mi #[(.ref g)] below me cd s₁ [] 0 0 := Stand.of_body Bd
  have eE : s₁.heap = hE := by rw [← hh, Bd.state]; rfl
  have N0 := Fr.nil n0
  have pre0 : ∀ tt, Steps pg.tables ev below (s₁.setTop (mkF mi 0 #[.val (.ref g)] [])) tt → Steps pg.tables ev below (s₁.setTop (entryFrame mi #[(.ref g)] 1)) tt := fun tt kk => castTop (ef_g_beanName mi g) kk
  obtain ⟨T101, X101, e101, st101⟩ := getF X0 hx hZ hown (host := "") (Or.inl (wd103 hw)) Via.refl eE P0_ (g := (mkF mi 1 #[.val (.ref g)] [(.ref g)])) rfl rfl (hb hby d_prog_9_method_14_code_1)
  obtain ⟨fs, hr, hrun, hended, hW, hsame⟩ := X101.leave (v := some (.ref x)) (fun hq => by rw [Bd.returns] at hq; cases hq)
  refine ⟨_, _, pre0 _ ?_, hrun, hended, _, _, rfl, ?_, ⟨_, rfl⟩, hW, hsame.mono (by decide) (by decide)⟩
  · show Steps pg.tables ev below (s₁.setTop (mkF mi 0 #[.val (.ref g)] [])) _
    refine XS.aloadN X0.here hx rfl (hb hby d_prog_9_method_14_code_0) rfl rfl ?_
    show Steps pg.tables ev below (s₁.setTop (mkF mi 1 #[.val (.ref g)] [(.ref g)])) _
    refine st101 _ ?_
    show Steps pg.tables ev below (T101.setTop (mkF mi 4 #[.val (.ref g)] [(.ref x)])) _
    jvm_step X101.here [X101.here.top, hx, (hb hby d_prog_9_method_14_code_4), X101.method', Bd.returns, Value.isRef, FieldType.isReference]
    first | (intro acts; rw [hr _ acts rfl rfl rfl]) | rw [hr _ _ rfl rfl rfl]
    exact Steps.refl _
  · show Q_g_beanName Z g x hE n0 _ T101.heap _
    rw [e101]
    exact ⟨rfl, N0, rfl⟩
theorem d_prog_9_method_15_code_0 : decode prog_9_method_15_code 0 = .ok (.aload_n 0, 1) := by decide +kernel
theorem d_prog_9_method_15_code_1 : decode prog_9_method_15_code 1 = .ok (.getfield 39, 3) := by decide +kernel
theorem d_prog_9_method_15_code_4 : decode prog_9_method_15_code 4 = .ok (.areturn, 1) := by decide +kernel
theorem ef_g_viewName (mi : MethodId) (g : Addr) : entryFrame mi #[(.ref g)] 1 = mkF mi 0 #[.val (.ref g)] [] := by first | (simp [entryFrame, mkF, argsToLocals, Value.category]; done) | rfl
def Q_g_viewName (Z : State) (g : Addr) (x : Addr) (hE : Heap) (n0 : Nat) (vv : Option Value) (hh : Heap) (LL : List Loc) : Prop := (vv = some (.ref x)) ∧ (Fr n0 LL) ∧ (hh = hE)
set_option maxRecDepth 65536 in
set_option maxHeartbeats 40000000 in
theorem rm_g_viewName (la : Launch) (Z : State) (a0 : Array Value) (hw : ∀ d ∈ tables_1, d.before a0 Z = true) (ws : List Jvm.Cond) (g : Addr) (x : Addr) (hE : Heap) (n0 : Nat) (O : Old Z n0 hE) (P0_ : Fld Z hE g "com/example/beanloft/beanloft/naming/GlobalName" "viewName" "Ljava/lang/String;" (.ref x)) :
    MetFree la mn31 (head1 (Jvm.Cond.code mn31 prog_9_method_15_code 1 (some (.object "java/lang/String")) :: ws) ({ frames := 0, cells := 0, slots := 0, locals := 0 } : Room)) (fun aa UU => aa = #[(.ref g)] ∧ Z.Warmed39 UU.vm ∧ UU.heap = hE) (fun _ _ _ _ _ => True) (fun _ UU oo UV => ∃ vv LL, oo = .returned vv ∧ Q_g_viewName Z g x hE n0 vv UV.heap LL ∧ FrameEnd UU oo UV LL ({ frames := 0, cells := 0, slots := 0, locals := 0 } : Room).cells ({ frames := 0, cells := 0, slots := 0, locals := 0 } : Room).slots) := by
  refine MetFree.of_bodySF (plainFor_of_name pn_com_example_beanloft_beanloft_naming_GlobalName) hisR ?_
  intro pg ev sb mi gs below me cd s₁ Bd hml0 hPt hKt
  obtain ⟨rfl, hZ, hh⟩ := hPt
  have hx := Bd.exec
  have hby := Bd.bytes
  have hml : cd.maxLocals = 1 := hml0
  have hown : sb.vm.findClass "com/example/beanloft/beanloft/naming/GlobalName" = some mi.cls := findClass_of_methodNamed Bd.named
  have hnm := (name_of_methodNamed Bd.named Bd.method).1
  have X0 : Stand pg la ev ({ frames := 0, cells := 0, slots := 0, locals := 0 } : Room) sb mi #[(.ref g)] below me cd s₁ [] 0 0 := Stand.of_body Bd
  have eE : s₁.heap = hE := by rw [← hh, Bd.state]; rfl
  have N0 := Fr.nil n0
  have pre0 : ∀ tt, Steps pg.tables ev below (s₁.setTop (mkF mi 0 #[.val (.ref g)] [])) tt → Steps pg.tables ev below (s₁.setTop (entryFrame mi #[(.ref g)] 1)) tt := fun tt kk => castTop (ef_g_viewName mi g) kk
  obtain ⟨T101, X101, e101, st101⟩ := getF X0 hx hZ hown (host := "") (Or.inl (wd105 hw)) Via.refl eE P0_ (g := (mkF mi 1 #[.val (.ref g)] [(.ref g)])) rfl rfl (hb hby d_prog_9_method_15_code_1)
  obtain ⟨fs, hr, hrun, hended, hW, hsame⟩ := X101.leave (v := some (.ref x)) (fun hq => by rw [Bd.returns] at hq; cases hq)
  refine ⟨_, _, pre0 _ ?_, hrun, hended, _, _, rfl, ?_, ⟨_, rfl⟩, hW, hsame.mono (by decide) (by decide)⟩
  · show Steps pg.tables ev below (s₁.setTop (mkF mi 0 #[.val (.ref g)] [])) _
    refine XS.aloadN X0.here hx rfl (hb hby d_prog_9_method_15_code_0) rfl rfl ?_
    show Steps pg.tables ev below (s₁.setTop (mkF mi 1 #[.val (.ref g)] [(.ref g)])) _
    refine st101 _ ?_
    show Steps pg.tables ev below (T101.setTop (mkF mi 4 #[.val (.ref g)] [(.ref x)])) _
    jvm_step X101.here [X101.here.top, hx, (hb hby d_prog_9_method_15_code_4), X101.method', Bd.returns, Value.isRef, FieldType.isReference]
    first | (intro acts; rw [hr _ acts rfl rfl rfl]) | rw [hr _ _ rfl rfl rfl]
    exact Steps.refl _
  · show Q_g_viewName Z g x hE n0 _ T101.heap _
    rw [e101]
    exact ⟨rfl, N0, rfl⟩
theorem ef_gN_viewName (mi : MethodId) (g : Addr) : entryFrame mi #[(.ref g)] 1 = mkF mi 0 #[.val (.ref g)] [] := by first | (simp [entryFrame, mkF, argsToLocals, Value.category]; done) | rfl
def Q_gN_viewName (Z : State) (g : Addr) (hE : Heap) (n0 : Nat) (vv : Option Value) (hh : Heap) (LL : List Loc) : Prop := (vv = some .null) ∧ (Fr n0 LL) ∧ (hh = hE)
set_option maxRecDepth 65536 in
set_option maxHeartbeats 40000000 in
theorem rm_gN_viewName (la : Launch) (Z : State) (a0 : Array Value) (hw : ∀ d ∈ tables_1, d.before a0 Z = true) (ws : List Jvm.Cond) (g : Addr) (hE : Heap) (n0 : Nat) (O : Old Z n0 hE) (P0_ : Fld Z hE g "com/example/beanloft/beanloft/naming/GlobalName" "viewName" "Ljava/lang/String;" .null) :
    MetFree la mn31 (head1 (Jvm.Cond.code mn31 prog_9_method_15_code 1 (some (.object "java/lang/String")) :: ws) ({ frames := 0, cells := 0, slots := 0, locals := 0 } : Room)) (fun aa UU => aa = #[(.ref g)] ∧ Z.Warmed39 UU.vm ∧ UU.heap = hE) (fun _ _ _ _ _ => True) (fun _ UU oo UV => ∃ vv LL, oo = .returned vv ∧ Q_gN_viewName Z g hE n0 vv UV.heap LL ∧ FrameEnd UU oo UV LL ({ frames := 0, cells := 0, slots := 0, locals := 0 } : Room).cells ({ frames := 0, cells := 0, slots := 0, locals := 0 } : Room).slots) := by
  refine MetFree.of_bodySF (plainFor_of_name pn_com_example_beanloft_beanloft_naming_GlobalName) hisR ?_
  intro pg ev sb mi gs below me cd s₁ Bd hml0 hPt hKt
  obtain ⟨rfl, hZ, hh⟩ := hPt
  have hx := Bd.exec
  have hby := Bd.bytes
  have hml : cd.maxLocals = 1 := hml0
  have hown : sb.vm.findClass "com/example/beanloft/beanloft/naming/GlobalName" = some mi.cls := findClass_of_methodNamed Bd.named
  have hnm := (name_of_methodNamed Bd.named Bd.method).1
  have X0 : Stand pg la ev ({ frames := 0, cells := 0, slots := 0, locals := 0 } : Room) sb mi #[(.ref g)] below me cd s₁ [] 0 0 := Stand.of_body Bd
  have eE : s₁.heap = hE := by rw [← hh, Bd.state]; rfl
  have N0 := Fr.nil n0
  have pre0 : ∀ tt, Steps pg.tables ev below (s₁.setTop (mkF mi 0 #[.val (.ref g)] [])) tt → Steps pg.tables ev below (s₁.setTop (entryFrame mi #[(.ref g)] 1)) tt := fun tt kk => castTop (ef_gN_viewName mi g) kk
  obtain ⟨T101, X101, e101, st101⟩ := getF X0 hx hZ hown (host := "") (Or.inl (wd105 hw)) Via.refl eE P0_ (g := (mkF mi 1 #[.val (.ref g)] [(.ref g)])) rfl rfl (hb hby d_prog_9_method_15_code_1)
  obtain ⟨fs, hr, hrun, hended, hW, hsame⟩ := X101.leave (v := some .null) (fun hq => by rw [Bd.returns] at hq; cases hq)
  refine ⟨_, _, pre0 _ ?_, hrun, hended, _, _, rfl, ?_, ⟨_, rfl⟩, hW, hsame.mono (by decide) (by decide)⟩
  · show Steps pg.tables ev below (s₁.setTop (mkF mi 0 #[.val (.ref g)] [])) _
    refine XS.aloadN X0.here hx rfl (hb hby d_prog_9_method_15_code_0) rfl rfl ?_
    show Steps pg.tables ev below (s₁.setTop (mkF mi 1 #[.val (.ref g)] [(.ref g)])) _
    refine st101 _ ?_
    show Steps pg.tables ev below (T101.setTop (mkF mi 4 #[.val (.ref g)] [.null])) _
    jvm_step X101.here [X101.here.top, hx, (hb hby d_prog_9_method_15_code_4), X101.method', Bd.returns, Value.isRef, FieldType.isReference]
    first | (intro acts; rw [hr _ acts rfl rfl rfl]) | rw [hr _ _ rfl rfl rfl]
    exact Steps.refl _
  · show Q_gN_viewName Z g hE n0 _ T101.heap _
    rw [e101]
    exact ⟨rfl, N0, rfl⟩
theorem d_jdk_42_method_66_code_0 : decode jdk_42_method_66_code 0 = .ok (.aload_n 0, 1) := by decide +kernel
theorem d_jdk_42_method_66_code_1 : decode jdk_42_method_66_code 1 = .ok (.aload_n 1, 1) := by decide +kernel
theorem d_jdk_42_method_66_code_2 : decode jdk_42_method_66_code 2 = .ok (.if_acmp .ne 5, 3) := by decide +kernel
theorem d_jdk_42_method_66_code_5 : decode jdk_42_method_66_code 5 = .ok (.iconst 1, 1) := by decide +kernel
theorem d_jdk_42_method_66_code_6 : decode jdk_42_method_66_code 6 = .ok (.ireturn, 1) := by decide +kernel
theorem ef_eqs (mi : MethodId) (x : Addr) : entryFrame mi #[(.ref x), (.ref x)] 3 = mkF mi 0 #[.val (.ref x), .val (.ref x), .unset] [] := by first | (simp [entryFrame, mkF, argsToLocals, Value.category]; done) | rfl
def Q_eqs (Z : State) (x : Addr) (hE : Heap) (n0 : Nat) (vv : Option Value) (hh : Heap) (LL : List Loc) : Prop := (vv = some (.int (1 : Int32))) ∧ (Fr n0 LL) ∧ (hh = hE)
set_option maxRecDepth 65536 in
set_option maxHeartbeats 40000000 in
theorem rm_eqs (la : Launch) (Z : State) (a0 : Array Value) (hw : ∀ d ∈ tables_1, d.before a0 Z = true) (ws : List Jvm.Cond) (x : Addr) (hE : Heap) (n0 : Nat) (O : Old Z n0 hE) :
    MetFree la mn32 (head1 (Jvm.Cond.code mn32 jdk_42_method_66_code 3 (some .boolean) :: ws) ({ frames := 0, cells := 0, slots := 0, locals := 0 } : Room)) (fun aa UU => aa = #[(.ref x), (.ref x)] ∧ Z.Warmed39 UU.vm ∧ UU.heap = hE) (fun _ _ _ _ _ => True) (fun _ UU oo UV => ∃ vv LL, oo = .returned vv ∧ Q_eqs Z x hE n0 vv UV.heap LL ∧ FrameEnd UU oo UV LL ({ frames := 0, cells := 0, slots := 0, locals := 0 } : Room).cells ({ frames := 0, cells := 0, slots := 0, locals := 0 } : Room).slots) := by
  refine MetFree.of_bodySF (plainFor_of_name pn_java_lang_String) hisR ?_
  intro pg ev sb mi gs below me cd s₁ Bd hml0 hPt hKt
  obtain ⟨rfl, hZ, hh⟩ := hPt
  have hx := Bd.exec
  have hby := Bd.bytes
  have hml : cd.maxLocals = 3 := hml0
  have hown : sb.vm.findClass "java/lang/String" = some mi.cls := findClass_of_methodNamed Bd.named
  have hnm := (name_of_methodNamed Bd.named Bd.method).1
  have X0 : Stand pg la ev ({ frames := 0, cells := 0, slots := 0, locals := 0 } : Room) sb mi #[(.ref x), (.ref x)] below me cd s₁ [] 0 0 := Stand.of_body Bd
  have eE : s₁.heap = hE := by rw [← hh, Bd.state]; rfl
  have N0 := Fr.nil n0
  have pre0 : ∀ tt, Steps pg.tables ev below (s₁.setTop (mkF mi 0 #[.val (.ref x), .val (.ref x), .unset] [])) tt → Steps pg.tables ev below (s₁.setTop (entryFrame mi #[(.ref x), (.ref x)] 3)) tt := fun tt kk => castTop (ef_eqs mi x) kk
  obtain ⟨fs, hr, hrun, hended, hW, hsame⟩ := X0.leave (v := some (.int (1 : Int32))) (fun hq => by rw [Bd.returns] at hq; cases hq)
  refine ⟨_, _, pre0 _ ?_, hrun, hended, _, _, rfl, ?_, ⟨_, rfl⟩, hW, hsame.mono (by decide) (by decide)⟩
  · show Steps pg.tables ev below (s₁.setTop (mkF mi 0 #[.val (.ref x), .val (.ref x), .unset] [])) _
    refine XS.aloadN X0.here hx rfl (hb hby d_jdk_42_method_66_code_0) rfl rfl ?_
    refine XS.aloadN X0.here hx rfl (hb hby d_jdk_42_method_66_code_1) rfl rfl ?_
    show Steps pg.tables ev below (s₁.setTop (mkF mi 2 #[.val (.ref x), .val (.ref x), .unset] [(.ref x), (.ref x)])) _
    refine Jvm.RoadKit.acmp (g := (mkF mi 2 #[.val (.ref x), .val (.ref x), .unset] [(.ref x), (.ref x)])) X0 hx rfl rfl rfl (pc0 := 2) (pc' := 5) (same := true) rfl (hb hby d_jdk_42_method_66_code_2) rfl (decide_eq_true rfl) (by decide) (by decide) ?_
    show Steps pg.tables ev below (s₁.setTop (mkF mi 5 #[.val (.ref x), .val (.ref x), .unset] [])) _
    refine XS.iconst X0.here hx rfl (hb hby d_jdk_42_method_66_code_5) ?_
    show Steps pg.tables ev below (s₁.setTop (mkF mi 6 #[.val (.ref x), .val (.ref x), .unset] [(.int (1 : Int32))])) _
    exact retN X0 hx (t := .boolean) Bd.returns (by simp) (hb hby d_jdk_42_method_66_code_6) hr
  · show Q_eqs Z x hE n0 _ s₁.heap _
    rw [eE]
    exact ⟨rfl, N0, rfl⟩
theorem d_method_4_code_0 : decode method_4_code 0 = .ok (.aload_n 0, 1) := by decide +kernel
theorem d_method_4_code_1 : decode method_4_code 1 = .ok (.ifnonnull 13, 3) := by decide +kernel
theorem d_method_4_code_14 : decode method_4_code 14 = .ok (.aload_n 1, 1) := by decide +kernel
theorem d_method_4_code_15 : decode method_4_code 15 = .ok (.ifnull 15, 3) := by decide +kernel
theorem d_method_4_code_18 : decode method_4_code 18 = .ok (.aload_n 0, 1) := by decide +kernel
theorem d_method_4_code_19 : decode method_4_code 19 = .ok (.aload_n 1, 1) := by decide +kernel
theorem d_method_4_code_20 : decode method_4_code 20 = .ok (.invokevirtual 42, 3) := by decide +kernel
theorem d_method_4_code_23 : decode method_4_code 23 = .ok (.ifCond .eq 7, 3) := by decide +kernel
theorem d_method_4_code_26 : decode method_4_code 26 = .ok (.iconst 1, 1) := by decide +kernel
theorem d_method_4_code_27 : decode method_4_code 27 = .ok (.goto 4, 3) := by decide +kernel
theorem d_method_4_code_31 : decode method_4_code 31 = .ok (.ireturn, 1) := by decide +kernel
theorem pd_16 : parseMethodDescriptor "(Ljava/lang/Object;)Z" = some ⟨[(.object "java/lang/Object")], some .boolean⟩ := by decide +kernel
theorem ef_eq1 (mi : MethodId) (x : Addr) : entryFrame mi #[(.ref x), (.ref x)] 2 = mkF mi 0 #[.val (.ref x), .val (.ref x)] [] := by first | (simp [entryFrame, mkF, argsToLocals, Value.category]; done) | rfl
def Q_eq1 (Z : State) (x : Addr) (hE : Heap) (n0 : Nat) (vv : Option Value) (hh : Heap) (LL : List Loc) : Prop := (vv = some (.int (1 : Int32))) ∧ (Fr n0 LL) ∧ (hh = hE)
set_option maxRecDepth 65536 in
set_option maxHeartbeats 40000000 in
theorem rm_eq1 (la : Launch) (Z : State) (a0 : Array Value) (hw : ∀ d ∈ tables_1, d.before a0 Z = true) (ws : List Jvm.Cond) (x : Addr) (hE : Heap) (n0 : Nat) (O : Old Z n0 hE) (P0_ : Exa Z hE x "java/lang/String") :
    MetFree la mn33 (head1 (Jvm.Cond.code mn33 method_4_code 2 (some .boolean) :: ws) ({ frames := 1, cells := 0, slots := 0, locals := 14 } : Room)) (fun aa UU => aa = #[(.ref x), (.ref x)] ∧ Z.Warmed39 UU.vm ∧ UU.heap = hE) (fun _ _ _ _ _ => True) (fun _ UU oo UV => ∃ vv LL, oo = .returned vv ∧ Q_eq1 Z x hE n0 vv UV.heap LL ∧ FrameEnd UU oo UV LL ({ frames := 1, cells := 0, slots := 0, locals := 14 } : Room).cells ({ frames := 1, cells := 0, slots := 0, locals := 14 } : Room).slots) := by
  refine MetFree.of_bodySF (plainFor_of_name pn_com_example_beanloft_beanloft_naming_GlobalNameFormsPinLaw) hisR ?_
  intro pg ev sb mi gs below me cd s₁ Bd hml0 hPt hKt
  obtain ⟨rfl, hZ, hh⟩ := hPt
  have hx := Bd.exec
  have hby := Bd.bytes
  have hml : cd.maxLocals = 2 := hml0
  have hown : sb.vm.findClass "com/example/beanloft/beanloft/naming/GlobalNameFormsPinLaw" = some mi.cls := findClass_of_methodNamed Bd.named
  have hnm := (name_of_methodNamed Bd.named Bd.method).1
  have X0 : Stand pg la ev ({ frames := 1, cells := 0, slots := 0, locals := 14 } : Room) sb mi #[(.ref x), (.ref x)] below me cd s₁ [] 0 0 := Stand.of_body Bd
  have eE : s₁.heap = hE := by rw [← hh, Bd.state]; rfl
  have N0 := Fr.nil n0
  have pre0 : ∀ tt, Steps pg.tables ev below (s₁.setTop (mkF mi 0 #[.val (.ref x), .val (.ref x)] [])) tt → Steps pg.tables ev below (s₁.setTop (entryFrame mi #[(.ref x), (.ref x)] 2)) tt := fun tt kk => castTop (ef_eq1 mi x) kk
  obtain ⟨cq101, kq101, q101a, q101b, q101c⟩ := isOf hZ eE P0_
  obtain ⟨v101, _, ⟨T101, L101, k101, n101⟩, -, X101, ⟨Lc101, hQ101, l101, y101, z101⟩, st101⟩ := X0.virtualBack hx (y := mn32) (z := mn32) hown (mvT hZ (wd185 hw)) (mvT hZ (wd186 hw)) (notFace_of_selects (args := #[]) (mvT hZ (wd188 hw))) (mvT hZ (wd188 hw)) (mvT hZ (wd187 hw)) (by decide) (backOf (W := 0) (rm_eqs la Z a0 hw [] x hE n0 O) hZ (wd189 hw) (wd6 hw) (by decide) (by decide)) q101a q101c (g := (mkF mi 20 #[.val (.ref x), .val (.ref x)] [(.ref x), (.ref x)])) rfl (by rw [hml]; rfl) (Steps.refl _) (argsL := [(.ref x)]) (rest := []) (lenOf pd_16 rfl) rfl (by show 2 * 0 + _ ≤ _; exact Nat.le_of_eq rfl) (hb hby d_method_4_code_20) (fun _ _ => ⟨rfl, eE, (by decide : 0 + 0 ≤ _), (by decide : 0 + 0 ≤ _)⟩)
  dsimp only [Pt.U, Pt.locs, Pt.cells, Pt.slots] at X101 l101 y101 z101 st101 hQ101
  subst l101 y101 z101
  obtain ⟨rfl, Nq101, ek101⟩ := hQ101
  have N101 := Fr.app N0 Nq101
  obtain ⟨fs, hr, hrun, hended, hW, hsame⟩ := X101.leave (v := some (.int (1 : Int32))) (fun hq => by rw [Bd.returns] at hq; cases hq)
  refine ⟨_, _, pre0 _ ?_, hrun, hended, _, _, rfl, ?_, ⟨_, rfl⟩, hW, hsame.mono (by decide) (by decide)⟩
  · show Steps pg.tables ev below (s₁.setTop (mkF mi 0 #[.val (.ref x), .val (.ref x)] [])) _
    refine XS.aloadN X0.here hx rfl (hb hby d_method_4_code_0) rfl rfl ?_
    refine XS.ifnonnullYes X0.here hx rfl (pc0 := 1) (pc' := 14) rfl (hb hby d_method_4_code_1) rfl (by decide) (by decide) ?_
    refine XS.aloadN X0.here hx rfl (hb hby d_method_4_code_14) rfl rfl ?_
    refine XS.ifnullNo X0.here hx rfl (hb hby d_method_4_code_15) rfl ?_
    refine XS.aloadN X0.here hx rfl (hb hby d_method_4_code_18) rfl rfl ?_
    refine XS.aloadN X0.here hx rfl (hb hby d_method_4_code_19) rfl rfl ?_
    show Steps pg.tables ev below (s₁.setTop (mkF mi 20 #[.val (.ref x), .val (.ref x)] [(.ref x), (.ref x)])) _
    refine st101.trans ?_
    show Steps pg.tables ev below (T101.setTop (mkF mi 23 #[.val (.ref x), .val (.ref x)] [(.int (1 : Int32))])) _
    refine XS.ifNo X101.here hx rfl (hb hby d_method_4_code_23) rfl ((if0 _ _).trans (feq (by decide : ¬ ((1 : Int32) = (0 : Int32)))).1) ?_
    refine XS.iconst X101.here hx rfl (hb hby d_method_4_code_26) ?_
    refine XS.goto X101.here hx rfl (pc0 := 27) (pc' := 31) rfl (hb hby d_method_4_code_27) (by decide) (by decide) ?_
    show Steps pg.tables ev below (T101.setTop (mkF mi 31 #[.val (.ref x), .val (.ref x)] [(.int (1 : Int32))])) _
    exact retN X101 hx (t := .boolean) Bd.returns (by simp) (hb hby d_method_4_code_31) hr
  · show Q_eq1 Z x hE n0 _ T101.heap _
    rw [ek101]
    exact ⟨rfl, N101, rfl⟩
theorem d_method_4_code_4 : decode method_4_code 4 = .ok (.aload_n 1, 1) := by decide +kernel
theorem d_method_4_code_5 : decode method_4_code 5 = .ok (.ifnonnull 7, 3) := by decide +kernel
theorem d_method_4_code_8 : decode method_4_code 8 = .ok (.iconst 1, 1) := by decide +kernel
theorem d_method_4_code_9 : decode method_4_code 9 = .ok (.goto 4, 3) := by decide +kernel
theorem d_method_4_code_13 : decode method_4_code 13 = .ok (.ireturn, 1) := by decide +kernel
theorem ef_eq0 (mi : MethodId)  : entryFrame mi #[.null, .null] 2 = mkF mi 0 #[.val .null, .val .null] [] := by first | (simp [entryFrame, mkF, argsToLocals, Value.category]; done) | rfl
def Q_eq0 (Z : State)  (hE : Heap) (n0 : Nat) (vv : Option Value) (hh : Heap) (LL : List Loc) : Prop := (vv = some (.int (1 : Int32))) ∧ (Fr n0 LL) ∧ (hh = hE)
set_option maxRecDepth 65536 in
set_option maxHeartbeats 40000000 in
theorem rm_eq0 (la : Launch) (Z : State) (a0 : Array Value) (hw : ∀ d ∈ tables_1, d.before a0 Z = true) (ws : List Jvm.Cond)  (hE : Heap) (n0 : Nat) (O : Old Z n0 hE) :
    MetFree la mn33 (head1 (Jvm.Cond.code mn33 method_4_code 2 (some .boolean) :: ws) ({ frames := 0, cells := 0, slots := 0, locals := 0 } : Room)) (fun aa UU => aa = #[.null, .null] ∧ Z.Warmed39 UU.vm ∧ UU.heap = hE) (fun _ _ _ _ _ => True) (fun _ UU oo UV => ∃ vv LL, oo = .returned vv ∧ Q_eq0 Z  hE n0 vv UV.heap LL ∧ FrameEnd UU oo UV LL ({ frames := 0, cells := 0, slots := 0, locals := 0 } : Room).cells ({ frames := 0, cells := 0, slots := 0, locals := 0 } : Room).slots) := by
  refine MetFree.of_bodySF (plainFor_of_name pn_com_example_beanloft_beanloft_naming_GlobalNameFormsPinLaw) hisR ?_
  intro pg ev sb mi gs below me cd s₁ Bd hml0 hPt hKt
  obtain ⟨rfl, hZ, hh⟩ := hPt
  have hx := Bd.exec
  have hby := Bd.bytes
  have hml : cd.maxLocals = 2 := hml0
  have hown : sb.vm.findClass "com/example/beanloft/beanloft/naming/GlobalNameFormsPinLaw" = some mi.cls := findClass_of_methodNamed Bd.named
  have hnm := (name_of_methodNamed Bd.named Bd.method).1
  have X0 : Stand pg la ev ({ frames := 0, cells := 0, slots := 0, locals := 0 } : Room) sb mi #[.null, .null] below me cd s₁ [] 0 0 := Stand.of_body Bd
  have eE : s₁.heap = hE := by rw [← hh, Bd.state]; rfl
  have N0 := Fr.nil n0
  have pre0 : ∀ tt, Steps pg.tables ev below (s₁.setTop (mkF mi 0 #[.val .null, .val .null] [])) tt → Steps pg.tables ev below (s₁.setTop (entryFrame mi #[.null, .null] 2)) tt := fun tt kk => castTop (ef_eq0 mi ) kk
  obtain ⟨fs, hr, hrun, hended, hW, hsame⟩ := X0.leave (v := some (.int (1 : Int32))) (fun hq => by rw [Bd.returns] at hq; cases hq)
  refine ⟨_, _, pre0 _ ?_, hrun, hended, _, _, rfl, ?_, ⟨_, rfl⟩, hW, hsame.mono (by decide) (by decide)⟩
  · show Steps pg.tables ev below (s₁.setTop (mkF mi 0 #[.val .null, .val .null] [])) _
    refine XS.aloadN X0.here hx rfl (hb hby d_method_4_code_0) rfl rfl ?_
    refine XS.ifnonnullNo X0.here hx rfl (hb hby d_method_4_code_1) rfl ?_
    refine XS.aloadN X0.here hx rfl (hb hby d_method_4_code_4) rfl rfl ?_
    refine XS.ifnonnullNo X0.here hx rfl (hb hby d_method_4_code_5) rfl ?_
    refine XS.iconst X0.here hx rfl (hb hby d_method_4_code_8) ?_
    refine XS.goto X0.here hx rfl (pc0 := 9) (pc' := 13) rfl (hb hby d_method_4_code_9) (by decide) (by decide) ?_
    show Steps pg.tables ev below (s₁.setTop (mkF mi 13 #[.val .null, .val .null] [(.int (1 : Int32))])) _
    exact retN X0 hx (t := .boolean) Bd.returns (by simp) (hb hby d_method_4_code_13) hr
  · show Q_eq0 Z  hE n0 _ s₁.heap _
    rw [eE]
    exact ⟨rfl, N0, rfl⟩
theorem d_method_5_code_0 : decode method_5_code 0 = .ok (.aload_n 0, 1) := by decide +kernel
theorem d_method_5_code_1 : decode method_5_code 1 = .ok (.ifnonnull 5, 3) := by decide +kernel
theorem d_method_5_code_6 : decode method_5_code 6 = .ok (.aload_n 0, 1) := by decide +kernel
theorem d_method_5_code_7 : decode method_5_code 7 = .ok (.invokevirtual 46, 3) := by decide +kernel
theorem d_method_5_code_10 : decode method_5_code 10 = .ok (.aload_n 1, 1) := by decide +kernel
theorem d_method_5_code_11 : decode method_5_code 11 = .ok (.invokestatic 50, 3) := by decide +kernel
theorem d_method_5_code_14 : decode method_5_code 14 = .ok (.ifCond .eq 41, 3) := by decide +kernel
theorem d_method_5_code_17 : decode method_5_code 17 = .ok (.aload_n 0, 1) := by decide +kernel
theorem d_method_5_code_18 : decode method_5_code 18 = .ok (.invokevirtual 54, 3) := by decide +kernel
theorem d_method_5_code_21 : decode method_5_code 21 = .ok (.aload_n 2, 1) := by decide +kernel
theorem d_method_5_code_22 : decode method_5_code 22 = .ok (.invokestatic 50, 3) := by decide +kernel
theorem d_method_5_code_25 : decode method_5_code 25 = .ok (.ifCond .eq 30, 3) := by decide +kernel
theorem d_method_5_code_28 : decode method_5_code 28 = .ok (.aload_n 0, 1) := by decide +kernel
theorem d_method_5_code_29 : decode method_5_code 29 = .ok (.invokevirtual 57, 3) := by decide +kernel
theorem d_method_5_code_32 : decode method_5_code 32 = .ok (.aload_n 3, 1) := by decide +kernel
theorem d_method_5_code_33 : decode method_5_code 33 = .ok (.invokestatic 50, 3) := by decide +kernel
theorem d_method_5_code_36 : decode method_5_code 36 = .ok (.ifCond .eq 19, 3) := by decide +kernel
theorem d_method_5_code_39 : decode method_5_code 39 = .ok (.aload_n 0, 1) := by decide +kernel
theorem d_method_5_code_40 : decode method_5_code 40 = .ok (.invokevirtual 60, 3) := by decide +kernel
theorem d_method_5_code_43 : decode method_5_code 43 = .ok (.aload 4, 2) := by decide +kernel
theorem d_method_5_code_45 : decode method_5_code 45 = .ok (.invokestatic 50, 3) := by decide +kernel
theorem d_method_5_code_48 : decode method_5_code 48 = .ok (.ifCond .eq 7, 3) := by decide +kernel
theorem d_method_5_code_51 : decode method_5_code 51 = .ok (.iconst 1, 1) := by decide +kernel
theorem d_method_5_code_52 : decode method_5_code 52 = .ok (.goto 4, 3) := by decide +kernel
theorem d_method_5_code_56 : decode method_5_code 56 = .ok (.ireturn, 1) := by decide +kernel
theorem pd_17 : parseMethodDescriptor "(Ljava/lang/String;Ljava/lang/String;)Z" = some ⟨[(.object "java/lang/String"), (.object "java/lang/String")], some .boolean⟩ := by decide +kernel
theorem ef_same00 (mi : MethodId) (g : Addr) (m : Addr) (b : Addr) : entryFrame mi #[(.ref g), .null, (.ref m), (.ref b), .null] 5 = mkF mi 0 #[.val (.ref g), .val .null, .val (.ref m), .val (.ref b), .val .null] [] := by first | (simp [entryFrame, mkF, argsToLocals, Value.category]; done) | rfl
def Q_same00 (Z : State) (g : Addr) (m : Addr) (b : Addr) (hE : Heap) (n0 : Nat) (vv : Option Value) (hh : Heap) (LL : List Loc) : Prop := (vv = some (.int (1 : Int32))) ∧ (Fr n0 LL) ∧ (hh = hE)
set_option maxRecDepth 65536 in
set_option maxHeartbeats 40000000 in
theorem rm_same00 (la : Launch) (Z : State) (a0 : Array Value) (hw : ∀ d ∈ tables_1, d.before a0 Z = true) (ws : List Jvm.Cond) (g : Addr) (m : Addr) (b : Addr) (hE : Heap) (n0 : Nat) (O : Old Z n0 hE) (P0_ : Exa Z hE g "com/example/beanloft/beanloft/naming/GlobalName") (P1_ : Fld Z hE g "com/example/beanloft/beanloft/naming/GlobalName" "appName" "Ljava/lang/String;" .null) (P2_ : Fld Z hE g "com/example/beanloft/beanloft/naming/GlobalName" "moduleName" "Ljava/lang/String;" (.ref m)) (P3_ : Fld Z hE g "com/example/beanloft/beanloft/naming/GlobalName" "beanName" "Ljava/lang/String;" (.ref b)) (P4_ : Fld Z hE g "com/example/beanloft/beanloft/naming/GlobalName" "viewName" "Ljava/lang/String;" .null) (P5_ : Exa Z hE m "java/lang/String") (P6_ : Exa Z hE b "java/lang/String") :
    MetFree la mn34 (head1 (Jvm.Cond.code mn34 method_5_code 5 (some .boolean) :: ws) ({ frames := 2, cells := 0, slots := 0, locals := 27 } : Room)) (fun aa UU => aa = #[(.ref g), .null, (.ref m), (.ref b), .null] ∧ Z.Warmed39 UU.vm ∧ UU.heap = hE) (fun _ _ _ _ _ => True) (fun _ UU oo UV => ∃ vv LL, oo = .returned vv ∧ Q_same00 Z g m b hE n0 vv UV.heap LL ∧ FrameEnd UU oo UV LL ({ frames := 2, cells := 0, slots := 0, locals := 27 } : Room).cells ({ frames := 2, cells := 0, slots := 0, locals := 27 } : Room).slots) := by
  refine MetFree.of_bodySF (plainFor_of_name pn_com_example_beanloft_beanloft_naming_GlobalNameFormsPinLaw) hisR ?_
  intro pg ev sb mi gs below me cd s₁ Bd hml0 hPt hKt
  obtain ⟨rfl, hZ, hh⟩ := hPt
  have hx := Bd.exec
  have hby := Bd.bytes
  have hml : cd.maxLocals = 5 := hml0
  have hown : sb.vm.findClass "com/example/beanloft/beanloft/naming/GlobalNameFormsPinLaw" = some mi.cls := findClass_of_methodNamed Bd.named
  have hnm := (name_of_methodNamed Bd.named Bd.method).1
  have X0 : Stand pg la ev ({ frames := 2, cells := 0, slots := 0, locals := 27 } : Room) sb mi #[(.ref g), .null, (.ref m), (.ref b), .null] below me cd s₁ [] 0 0 := Stand.of_body Bd
  have eE : s₁.heap = hE := by rw [← hh, Bd.state]; rfl
  have N0 := Fr.nil n0
  have pre0 : ∀ tt, Steps pg.tables ev below (s₁.setTop (mkF mi 0 #[.val (.ref g), .val .null, .val (.ref m), .val (.ref b), .val .null] [])) tt → Steps pg.tables ev below (s₁.setTop (entryFrame mi #[(.ref g), .null, (.ref m), (.ref b), .null] 5)) tt := fun tt kk => castTop (ef_same00 mi g m b) kk
  obtain ⟨cq101, kq101, q101a, q101b, q101c⟩ := isOf hZ eE P0_
  obtain ⟨v101, _, ⟨T101, L101, k101, n101⟩, -, X101, ⟨Lc101, hQ101, l101, y101, z101⟩, st101⟩ := X0.virtualBack hx (y := mn28) (z := mn28) hown (mvT hZ (wd172 hw)) (mvT hZ (wd173 hw)) (notFace_of_selects (args := #[]) (mvT hZ (wd175 hw))) (mvT hZ (wd175 hw)) (mvT hZ (wd174 hw)) (by decide) (backOf (W := 0) (rm_gN_appName la Z a0 hw [] g hE n0 O P1_) hZ (wd176 hw) (wd32 hw) (by decide) (by decide)) q101a q101c (g := (mkF mi 7 #[.val (.ref g), .val .null, .val (.ref m), .val (.ref b), .val .null] [(.ref g)])) rfl (by rw [hml]; rfl) (Steps.refl _) (argsL := []) (rest := []) (lenOf pd_7 rfl) rfl (by show 2 * 0 + _ ≤ _; exact Nat.le_of_eq rfl) (hb hby d_method_5_code_7) (fun _ _ => ⟨rfl, eE, (by decide : 0 + 0 ≤ _), (by decide : 0 + 0 ≤ _)⟩)
  dsimp only [Pt.U, Pt.locs, Pt.cells, Pt.slots] at X101 l101 y101 z101 st101 hQ101
  subst l101 y101 z101
  obtain ⟨rfl, Nq101, ek101⟩ := hQ101
  have N101 := Fr.app N0 Nq101
  obtain ⟨v102, _, ⟨T102, L102, k102, n102⟩, -, X102, ⟨Lc102, hQ102, l102, y102, z102⟩, st102⟩ := Jvm.LawKit.callS X101 hx (y := mn33) hown (mvT hZ (wd177 hw)) (mvT hZ (wd178 hw)) (mvT hZ (wd2 hw)) (mvT hZ (wd179 hw)) (by decide) (backOf (W := 0) (rm_eq0 la Z a0 hw []  hE n0 O) hZ (wd179 hw) (wd2 hw) (by decide) (by decide)) (g := (mkF mi 11 #[.val (.ref g), .val .null, .val (.ref m), .val (.ref b), .val .null] [.null, .null])) rfl (by rw [hml]; rfl) (argsL := [.null, .null]) (rest := []) (lenOf pd_17 rfl) rfl (by show 2 * 0 + _ ≤ _; exact Nat.le_of_eq rfl) (hb hby d_method_5_code_11) (fun _ _ => ⟨rfl, ek101, (by decide : 0 + 0 ≤ _), (by decide : 0 + 0 ≤ _)⟩)
  dsimp only [Pt.U, Pt.locs, Pt.cells, Pt.slots] at X102 l102 y102 z102 st102 hQ102
  subst l102 y102 z102
  obtain ⟨rfl, Nq102, ek102⟩ := hQ102
  have N102 := Fr.app N101 Nq102
  obtain ⟨cq103, kq103, q103a, q103b, q103c⟩ := isOf hZ ek102 P0_
  obtain ⟨v103, _, ⟨T103, L103, k103, n103⟩, -, X103, ⟨Lc103, hQ103, l103, y103, z103⟩, st103⟩ := X102.virtualBack hx (y := mn29) (z := mn29) hown (mvT hZ (wd180 hw)) (mvT hZ (wd181 hw)) (notFace_of_selects (args := #[]) (mvT hZ (wd183 hw))) (mvT hZ (wd183 hw)) (mvT hZ (wd182 hw)) (by decide) (backOf (W := 0) (rm_g_moduleName la Z a0 hw [] g m hE n0 O P2_) hZ (wd184 hw) (wd32 hw) (by decide) (by decide)) q103a q103c (g := (mkF mi 18 #[.val (.ref g), .val .null, .val (.ref m), .val (.ref b), .val .null] [(.ref g)])) rfl (by rw [hml]; rfl) (Steps.refl _) (argsL := []) (rest := []) (lenOf pd_7 rfl) rfl (by show 2 * 0 + _ ≤ _; exact Nat.le_of_eq rfl) (hb hby d_method_5_code_18) (fun _ _ => ⟨rfl, ek102, (by decide : 0 + 0 ≤ _), (by decide : 0 + 0 ≤ _)⟩)
  dsimp only [Pt.U, Pt.locs, Pt.cells, Pt.slots] at X103 l103 y103 z103 st103 hQ103
  subst l103 y103 z103
  obtain ⟨rfl, Nq103, ek103⟩ := hQ103
  have N103 := Fr.app N102 Nq103
  obtain ⟨v104, _, ⟨T104, L104, k104, n104⟩, -, X104, ⟨Lc104, hQ104, l104, y104, z104⟩, st104⟩ := Jvm.LawKit.callS X103 hx (y := mn33) hown (mvT hZ (wd177 hw)) (mvT hZ (wd178 hw)) (mvT hZ (wd2 hw)) (mvT hZ (wd179 hw)) (by decide) (backOf (W := 0) (rm_eq1 la Z a0 hw [] m hE n0 O P5_) hZ (wd179 hw) (wd2 hw) (by decide) (by decide)) (g := (mkF mi 22 #[.val (.ref g), .val .null, .val (.ref m), .val (.ref b), .val .null] [(.ref m), (.ref m)])) rfl (by rw [hml]; rfl) (argsL := [(.ref m), (.ref m)]) (rest := []) (lenOf pd_17 rfl) rfl (by show 2 * 0 + _ ≤ _; exact Nat.le_of_eq rfl) (hb hby d_method_5_code_22) (fun _ _ => ⟨rfl, ek103, (by decide : 0 + 0 ≤ _), (by decide : 0 + 0 ≤ _)⟩)
  dsimp only [Pt.U, Pt.locs, Pt.cells, Pt.slots] at X104 l104 y104 z104 st104 hQ104
  subst l104 y104 z104
  obtain ⟨rfl, Nq104, ek104⟩ := hQ104
  have N104 := Fr.app N103 Nq104
  obtain ⟨cq105, kq105, q105a, q105b, q105c⟩ := isOf hZ ek104 P0_
  obtain ⟨v105, _, ⟨T105, L105, k105, n105⟩, -, X105, ⟨Lc105, hQ105, l105, y105, z105⟩, st105⟩ := X104.virtualBack hx (y := mn30) (z := mn30) hown (mvT hZ (wd190 hw)) (mvT hZ (wd191 hw)) (notFace_of_selects (args := #[]) (mvT hZ (wd193 hw))) (mvT hZ (wd193 hw)) (mvT hZ (wd192 hw)) (by decide) (backOf (W := 0) (rm_g_beanName la Z a0 hw [] g b hE n0 O P3_) hZ (wd194 hw) (wd32 hw) (by decide) (by decide)) q105a q105c (g := (mkF mi 29 #[.val (.ref g), .val .null, .val (.ref m), .val (.ref b), .val .null] [(.ref g)])) rfl (by rw [hml]; rfl) (Steps.refl _) (argsL := []) (rest := []) (lenOf pd_7 rfl) rfl (by show 2 * 0 + _ ≤ _; exact Nat.le_of_eq rfl) (hb hby d_method_5_code_29) (fun _ _ => ⟨rfl, ek104, (by decide : 0 + 0 ≤ _), (by decide : 0 + 0 ≤ _)⟩)
  dsimp only [Pt.U, Pt.locs, Pt.cells, Pt.slots] at X105 l105 y105 z105 st105 hQ105
  subst l105 y105 z105
  obtain ⟨rfl, Nq105, ek105⟩ := hQ105
  have N105 := Fr.app N104 Nq105
  obtain ⟨v106, _, ⟨T106, L106, k106, n106⟩, -, X106, ⟨Lc106, hQ106, l106, y106, z106⟩, st106⟩ := Jvm.LawKit.callS X105 hx (y := mn33) hown (mvT hZ (wd177 hw)) (mvT hZ (wd178 hw)) (mvT hZ (wd2 hw)) (mvT hZ (wd179 hw)) (by decide) (backOf (W := 0) (rm_eq1 la Z a0 hw [] b hE n0 O P6_) hZ (wd179 hw) (wd2 hw) (by decide) (by decide)) (g := (mkF mi 33 #[.val (.ref g), .val .null, .val (.ref m), .val (.ref b), .val .null] [(.ref b), (.ref b)])) rfl (by rw [hml]; rfl) (argsL := [(.ref b), (.ref b)]) (rest := []) (lenOf pd_17 rfl) rfl (by show 2 * 0 + _ ≤ _; exact Nat.le_of_eq rfl) (hb hby d_method_5_code_33) (fun _ _ => ⟨rfl, ek105, (by decide : 0 + 0 ≤ _), (by decide : 0 + 0 ≤ _)⟩)
  dsimp only [Pt.U, Pt.locs, Pt.cells, Pt.slots] at X106 l106 y106 z106 st106 hQ106
  subst l106 y106 z106
  obtain ⟨rfl, Nq106, ek106⟩ := hQ106
  have N106 := Fr.app N105 Nq106
  obtain ⟨cq107, kq107, q107a, q107b, q107c⟩ := isOf hZ ek106 P0_
  obtain ⟨v107, _, ⟨T107, L107, k107, n107⟩, -, X107, ⟨Lc107, hQ107, l107, y107, z107⟩, st107⟩ := X106.virtualBack hx (y := mn31) (z := mn31) hown (mvT hZ (wd195 hw)) (mvT hZ (wd196 hw)) (notFace_of_selects (args := #[]) (mvT hZ (wd198 hw))) (mvT hZ (wd198 hw)) (mvT hZ (wd197 hw)) (by decide) (backOf (W := 0) (rm_gN_viewName la Z a0 hw [] g hE n0 O P4_) hZ (wd199 hw) (wd32 hw) (by decide) (by decide)) q107a q107c (g := (mkF mi 40 #[.val (.ref g), .val .null, .val (.ref m), .val (.ref b), .val .null] [(.ref g)])) rfl (by rw [hml]; rfl) (Steps.refl _) (argsL := []) (rest := []) (lenOf pd_7 rfl) rfl (by show 2 * 0 + _ ≤ _; exact Nat.le_of_eq rfl) (hb hby d_method_5_code_40) (fun _ _ => ⟨rfl, ek106, (by decide : 0 + 0 ≤ _), (by decide : 0 + 0 ≤ _)⟩)
  dsimp only [Pt.U, Pt.locs, Pt.cells, Pt.slots] at X107 l107 y107 z107 st107 hQ107
  subst l107 y107 z107
  obtain ⟨rfl, Nq107, ek107⟩ := hQ107
  have N107 := Fr.app N106 Nq107
  obtain ⟨v108, _, ⟨T108, L108, k108, n108⟩, -, X108, ⟨Lc108, hQ108, l108, y108, z108⟩, st108⟩ := Jvm.LawKit.callS X107 hx (y := mn33) hown (mvT hZ (wd177 hw)) (mvT hZ (wd178 hw)) (mvT hZ (wd2 hw)) (mvT hZ (wd179 hw)) (by decide) (backOf (W := 0) (rm_eq0 la Z a0 hw []  hE n0 O) hZ (wd179 hw) (wd2 hw) (by decide) (by decide)) (g := (mkF mi 45 #[.val (.ref g), .val .null, .val (.ref m), .val (.ref b), .val .null] [.null, .null])) rfl (by rw [hml]; rfl) (argsL := [.null, .null]) (rest := []) (lenOf pd_17 rfl) rfl (by show 2 * 0 + _ ≤ _; exact Nat.le_of_eq rfl) (hb hby d_method_5_code_45) (fun _ _ => ⟨rfl, ek107, (by decide : 0 + 0 ≤ _), (by decide : 0 + 0 ≤ _)⟩)
  dsimp only [Pt.U, Pt.locs, Pt.cells, Pt.slots] at X108 l108 y108 z108 st108 hQ108
  subst l108 y108 z108
  obtain ⟨rfl, Nq108, ek108⟩ := hQ108
  have N108 := Fr.app N107 Nq108
  obtain ⟨fs, hr, hrun, hended, hW, hsame⟩ := X108.leave (v := some (.int (1 : Int32))) (fun hq => by rw [Bd.returns] at hq; cases hq)
  refine ⟨_, _, pre0 _ ?_, hrun, hended, _, _, rfl, ?_, ⟨_, rfl⟩, hW, hsame.mono (by decide) (by decide)⟩
  · show Steps pg.tables ev below (s₁.setTop (mkF mi 0 #[.val (.ref g), .val .null, .val (.ref m), .val (.ref b), .val .null] [])) _
    refine XS.aloadN X0.here hx rfl (hb hby d_method_5_code_0) rfl rfl ?_
    refine XS.ifnonnullYes X0.here hx rfl (pc0 := 1) (pc' := 6) rfl (hb hby d_method_5_code_1) rfl (by decide) (by decide) ?_
    refine XS.aloadN X0.here hx rfl (hb hby d_method_5_code_6) rfl rfl ?_
    show Steps pg.tables ev below (s₁.setTop (mkF mi 7 #[.val (.ref g), .val .null, .val (.ref m), .val (.ref b), .val .null] [(.ref g)])) _
    refine st101.trans ?_
    show Steps pg.tables ev below (T101.setTop (mkF mi 10 #[.val (.ref g), .val .null, .val (.ref m), .val (.ref b), .val .null] [.null])) _
    refine XS.aloadN X101.here hx rfl (hb hby d_method_5_code_10) rfl rfl ?_
    show Steps pg.tables ev below (T101.setTop (mkF mi 11 #[.val (.ref g), .val .null, .val (.ref m), .val (.ref b), .val .null] [.null, .null])) _
    refine st102 _ ?_
    show Steps pg.tables ev below (T102.setTop (mkF mi 14 #[.val (.ref g), .val .null, .val (.ref m), .val (.ref b), .val .null] [(.int (1 : Int32))])) _
    refine XS.ifNo X102.here hx rfl (hb hby d_method_5_code_14) rfl ((if0 _ _).trans (feq (by decide : ¬ ((1 : Int32) = (0 : Int32)))).1) ?_
    refine XS.aloadN X102.here hx rfl (hb hby d_method_5_code_17) rfl rfl ?_
    show Steps pg.tables ev below (T102.setTop (mkF mi 18 #[.val (.ref g), .val .null, .val (.ref m), .val (.ref b), .val .null] [(.ref g)])) _
    refine st103.trans ?_
    show Steps pg.tables ev below (T103.setTop (mkF mi 21 #[.val (.ref g), .val .null, .val (.ref m), .val (.ref b), .val .null] [(.ref m)])) _
    refine XS.aloadN X103.here hx rfl (hb hby d_method_5_code_21) rfl rfl ?_
    show Steps pg.tables ev below (T103.setTop (mkF mi 22 #[.val (.ref g), .val .null, .val (.ref m), .val (.ref b), .val .null] [(.ref m), (.ref m)])) _
    refine st104 _ ?_
    show Steps pg.tables ev below (T104.setTop (mkF mi 25 #[.val (.ref g), .val .null, .val (.ref m), .val (.ref b), .val .null] [(.int (1 : Int32))])) _
    refine XS.ifNo X104.here hx rfl (hb hby d_method_5_code_25) rfl ((if0 _ _).trans (feq (by decide : ¬ ((1 : Int32) = (0 : Int32)))).1) ?_
    refine XS.aloadN X104.here hx rfl (hb hby d_method_5_code_28) rfl rfl ?_
    show Steps pg.tables ev below (T104.setTop (mkF mi 29 #[.val (.ref g), .val .null, .val (.ref m), .val (.ref b), .val .null] [(.ref g)])) _
    refine st105.trans ?_
    show Steps pg.tables ev below (T105.setTop (mkF mi 32 #[.val (.ref g), .val .null, .val (.ref m), .val (.ref b), .val .null] [(.ref b)])) _
    refine XS.aloadN X105.here hx rfl (hb hby d_method_5_code_32) rfl rfl ?_
    show Steps pg.tables ev below (T105.setTop (mkF mi 33 #[.val (.ref g), .val .null, .val (.ref m), .val (.ref b), .val .null] [(.ref b), (.ref b)])) _
    refine st106 _ ?_
    show Steps pg.tables ev below (T106.setTop (mkF mi 36 #[.val (.ref g), .val .null, .val (.ref m), .val (.ref b), .val .null] [(.int (1 : Int32))])) _
    refine XS.ifNo X106.here hx rfl (hb hby d_method_5_code_36) rfl ((if0 _ _).trans (feq (by decide : ¬ ((1 : Int32) = (0 : Int32)))).1) ?_
    refine XS.aloadN X106.here hx rfl (hb hby d_method_5_code_39) rfl rfl ?_
    show Steps pg.tables ev below (T106.setTop (mkF mi 40 #[.val (.ref g), .val .null, .val (.ref m), .val (.ref b), .val .null] [(.ref g)])) _
    refine st107.trans ?_
    show Steps pg.tables ev below (T107.setTop (mkF mi 43 #[.val (.ref g), .val .null, .val (.ref m), .val (.ref b), .val .null] [.null])) _
    refine XS.aload X107.here hx rfl (hb hby d_method_5_code_43) rfl rfl ?_
    show Steps pg.tables ev below (T107.setTop (mkF mi 45 #[.val (.ref g), .val .null, .val (.ref m), .val (.ref b), .val .null] [.null, .null])) _
    refine st108 _ ?_
    show Steps pg.tables ev below (T108.setTop (mkF mi 48 #[.val (.ref g), .val .null, .val (.ref m), .val (.ref b), .val .null] [(.int (1 : Int32))])) _
    refine XS.ifNo X108.here hx rfl (hb hby d_method_5_code_48) rfl ((if0 _ _).trans (feq (by decide : ¬ ((1 : Int32) = (0 : Int32)))).1) ?_
    refine XS.iconst X108.here hx rfl (hb hby d_method_5_code_51) ?_
    refine XS.goto X108.here hx rfl (pc0 := 52) (pc' := 56) rfl (hb hby d_method_5_code_52) (by decide) (by decide) ?_
    show Steps pg.tables ev below (T108.setTop (mkF mi 56 #[.val (.ref g), .val .null, .val (.ref m), .val (.ref b), .val .null] [(.int (1 : Int32))])) _
    exact retN X108 hx (t := .boolean) Bd.returns (by simp) (hb hby d_method_5_code_56) hr
  · show Q_same00 Z g m b hE n0 _ T108.heap _
    rw [ek108]
    exact ⟨rfl, N108, rfl⟩
theorem ef_same01 (mi : MethodId) (g : Addr) (m : Addr) (b : Addr) (v : Addr) : entryFrame mi #[(.ref g), .null, (.ref m), (.ref b), (.ref v)] 5 = mkF mi 0 #[.val (.ref g), .val .null, .val (.ref m), .val (.ref b), .val (.ref v)] [] := by first | (simp [entryFrame, mkF, argsToLocals, Value.category]; done) | rfl
def Q_same01 (Z : State) (g : Addr) (m : Addr) (b : Addr) (v : Addr) (hE : Heap) (n0 : Nat) (vv : Option Value) (hh : Heap) (LL : List Loc) : Prop := (vv = some (.int (1 : Int32))) ∧ (Fr n0 LL) ∧ (hh = hE)
set_option maxRecDepth 65536 in
set_option maxHeartbeats 40000000 in
theorem rm_same01 (la : Launch) (Z : State) (a0 : Array Value) (hw : ∀ d ∈ tables_1, d.before a0 Z = true) (ws : List Jvm.Cond) (g : Addr) (m : Addr) (b : Addr) (v : Addr) (hE : Heap) (n0 : Nat) (O : Old Z n0 hE) (P0_ : Exa Z hE g "com/example/beanloft/beanloft/naming/GlobalName") (P1_ : Fld Z hE g "com/example/beanloft/beanloft/naming/GlobalName" "appName" "Ljava/lang/String;" .null) (P2_ : Fld Z hE g "com/example/beanloft/beanloft/naming/GlobalName" "moduleName" "Ljava/lang/String;" (.ref m)) (P3_ : Fld Z hE g "com/example/beanloft/beanloft/naming/GlobalName" "beanName" "Ljava/lang/String;" (.ref b)) (P4_ : Fld Z hE g "com/example/beanloft/beanloft/naming/GlobalName" "viewName" "Ljava/lang/String;" (.ref v)) (P5_ : Exa Z hE m "java/lang/String") (P6_ : Exa Z hE b "java/lang/String") (P7_ : Exa Z hE v "java/lang/String") :
    MetFree la mn34 (head1 (Jvm.Cond.code mn34 method_5_code 5 (some .boolean) :: ws) ({ frames := 2, cells := 0, slots := 0, locals := 27 } : Room)) (fun aa UU => aa = #[(.ref g), .null, (.ref m), (.ref b), (.ref v)] ∧ Z.Warmed39 UU.vm ∧ UU.heap = hE) (fun _ _ _ _ _ => True) (fun _ UU oo UV => ∃ vv LL, oo = .returned vv ∧ Q_same01 Z g m b v hE n0 vv UV.heap LL ∧ FrameEnd UU oo UV LL ({ frames := 2, cells := 0, slots := 0, locals := 27 } : Room).cells ({ frames := 2, cells := 0, slots := 0, locals := 27 } : Room).slots) := by
  refine MetFree.of_bodySF (plainFor_of_name pn_com_example_beanloft_beanloft_naming_GlobalNameFormsPinLaw) hisR ?_
  intro pg ev sb mi gs below me cd s₁ Bd hml0 hPt hKt
  obtain ⟨rfl, hZ, hh⟩ := hPt
  have hx := Bd.exec
  have hby := Bd.bytes
  have hml : cd.maxLocals = 5 := hml0
  have hown : sb.vm.findClass "com/example/beanloft/beanloft/naming/GlobalNameFormsPinLaw" = some mi.cls := findClass_of_methodNamed Bd.named
  have hnm := (name_of_methodNamed Bd.named Bd.method).1
  have X0 : Stand pg la ev ({ frames := 2, cells := 0, slots := 0, locals := 27 } : Room) sb mi #[(.ref g), .null, (.ref m), (.ref b), (.ref v)] below me cd s₁ [] 0 0 := Stand.of_body Bd
  have eE : s₁.heap = hE := by rw [← hh, Bd.state]; rfl
  have N0 := Fr.nil n0
  have pre0 : ∀ tt, Steps pg.tables ev below (s₁.setTop (mkF mi 0 #[.val (.ref g), .val .null, .val (.ref m), .val (.ref b), .val (.ref v)] [])) tt → Steps pg.tables ev below (s₁.setTop (entryFrame mi #[(.ref g), .null, (.ref m), (.ref b), (.ref v)] 5)) tt := fun tt kk => castTop (ef_same01 mi g m b v) kk
  obtain ⟨cq101, kq101, q101a, q101b, q101c⟩ := isOf hZ eE P0_
  obtain ⟨v101, _, ⟨T101, L101, k101, n101⟩, -, X101, ⟨Lc101, hQ101, l101, y101, z101⟩, st101⟩ := X0.virtualBack hx (y := mn28) (z := mn28) hown (mvT hZ (wd172 hw)) (mvT hZ (wd173 hw)) (notFace_of_selects (args := #[]) (mvT hZ (wd175 hw))) (mvT hZ (wd175 hw)) (mvT hZ (wd174 hw)) (by decide) (backOf (W := 0) (rm_gN_appName la Z a0 hw [] g hE n0 O P1_) hZ (wd176 hw) (wd32 hw) (by decide) (by decide)) q101a q101c (g := (mkF mi 7 #[.val (.ref g), .val .null, .val (.ref m), .val (.ref b), .val (.ref v)] [(.ref g)])) rfl (by rw [hml]; rfl) (Steps.refl _) (argsL := []) (rest := []) (lenOf pd_7 rfl) rfl (by show 2 * 0 + _ ≤ _; exact Nat.le_of_eq rfl) (hb hby d_method_5_code_7) (fun _ _ => ⟨rfl, eE, (by decide : 0 + 0 ≤ _), (by decide : 0 + 0 ≤ _)⟩)
  dsimp only [Pt.U, Pt.locs, Pt.cells, Pt.slots] at X101 l101 y101 z101 st101 hQ101
  subst l101 y101 z101
  obtain ⟨rfl, Nq101, ek101⟩ := hQ101
  have N101 := Fr.app N0 Nq101
  obtain ⟨v102, _, ⟨T102, L102, k102, n102⟩, -, X102, ⟨Lc102, hQ102, l102, y102, z102⟩, st102⟩ := Jvm.LawKit.callS X101 hx (y := mn33) hown (mvT hZ (wd177 hw)) (mvT hZ (wd178 hw)) (mvT hZ (wd2 hw)) (mvT hZ (wd179 hw)) (by decide) (backOf (W := 0) (rm_eq0 la Z a0 hw []  hE n0 O) hZ (wd179 hw) (wd2 hw) (by decide) (by decide)) (g := (mkF mi 11 #[.val (.ref g), .val .null, .val (.ref m), .val (.ref b), .val (.ref v)] [.null, .null])) rfl (by rw [hml]; rfl) (argsL := [.null, .null]) (rest := []) (lenOf pd_17 rfl) rfl (by show 2 * 0 + _ ≤ _; exact Nat.le_of_eq rfl) (hb hby d_method_5_code_11) (fun _ _ => ⟨rfl, ek101, (by decide : 0 + 0 ≤ _), (by decide : 0 + 0 ≤ _)⟩)
  dsimp only [Pt.U, Pt.locs, Pt.cells, Pt.slots] at X102 l102 y102 z102 st102 hQ102
  subst l102 y102 z102
  obtain ⟨rfl, Nq102, ek102⟩ := hQ102
  have N102 := Fr.app N101 Nq102
  obtain ⟨cq103, kq103, q103a, q103b, q103c⟩ := isOf hZ ek102 P0_
  obtain ⟨v103, _, ⟨T103, L103, k103, n103⟩, -, X103, ⟨Lc103, hQ103, l103, y103, z103⟩, st103⟩ := X102.virtualBack hx (y := mn29) (z := mn29) hown (mvT hZ (wd180 hw)) (mvT hZ (wd181 hw)) (notFace_of_selects (args := #[]) (mvT hZ (wd183 hw))) (mvT hZ (wd183 hw)) (mvT hZ (wd182 hw)) (by decide) (backOf (W := 0) (rm_g_moduleName la Z a0 hw [] g m hE n0 O P2_) hZ (wd184 hw) (wd32 hw) (by decide) (by decide)) q103a q103c (g := (mkF mi 18 #[.val (.ref g), .val .null, .val (.ref m), .val (.ref b), .val (.ref v)] [(.ref g)])) rfl (by rw [hml]; rfl) (Steps.refl _) (argsL := []) (rest := []) (lenOf pd_7 rfl) rfl (by show 2 * 0 + _ ≤ _; exact Nat.le_of_eq rfl) (hb hby d_method_5_code_18) (fun _ _ => ⟨rfl, ek102, (by decide : 0 + 0 ≤ _), (by decide : 0 + 0 ≤ _)⟩)
  dsimp only [Pt.U, Pt.locs, Pt.cells, Pt.slots] at X103 l103 y103 z103 st103 hQ103
  subst l103 y103 z103
  obtain ⟨rfl, Nq103, ek103⟩ := hQ103
  have N103 := Fr.app N102 Nq103
  obtain ⟨v104, _, ⟨T104, L104, k104, n104⟩, -, X104, ⟨Lc104, hQ104, l104, y104, z104⟩, st104⟩ := Jvm.LawKit.callS X103 hx (y := mn33) hown (mvT hZ (wd177 hw)) (mvT hZ (wd178 hw)) (mvT hZ (wd2 hw)) (mvT hZ (wd179 hw)) (by decide) (backOf (W := 0) (rm_eq1 la Z a0 hw [] m hE n0 O P5_) hZ (wd179 hw) (wd2 hw) (by decide) (by decide)) (g := (mkF mi 22 #[.val (.ref g), .val .null, .val (.ref m), .val (.ref b), .val (.ref v)] [(.ref m), (.ref m)])) rfl (by rw [hml]; rfl) (argsL := [(.ref m), (.ref m)]) (rest := []) (lenOf pd_17 rfl) rfl (by show 2 * 0 + _ ≤ _; exact Nat.le_of_eq rfl) (hb hby d_method_5_code_22) (fun _ _ => ⟨rfl, ek103, (by decide : 0 + 0 ≤ _), (by decide : 0 + 0 ≤ _)⟩)
  dsimp only [Pt.U, Pt.locs, Pt.cells, Pt.slots] at X104 l104 y104 z104 st104 hQ104
  subst l104 y104 z104
  obtain ⟨rfl, Nq104, ek104⟩ := hQ104
  have N104 := Fr.app N103 Nq104
  obtain ⟨cq105, kq105, q105a, q105b, q105c⟩ := isOf hZ ek104 P0_
  obtain ⟨v105, _, ⟨T105, L105, k105, n105⟩, -, X105, ⟨Lc105, hQ105, l105, y105, z105⟩, st105⟩ := X104.virtualBack hx (y := mn30) (z := mn30) hown (mvT hZ (wd190 hw)) (mvT hZ (wd191 hw)) (notFace_of_selects (args := #[]) (mvT hZ (wd193 hw))) (mvT hZ (wd193 hw)) (mvT hZ (wd192 hw)) (by decide) (backOf (W := 0) (rm_g_beanName la Z a0 hw [] g b hE n0 O P3_) hZ (wd194 hw) (wd32 hw) (by decide) (by decide)) q105a q105c (g := (mkF mi 29 #[.val (.ref g), .val .null, .val (.ref m), .val (.ref b), .val (.ref v)] [(.ref g)])) rfl (by rw [hml]; rfl) (Steps.refl _) (argsL := []) (rest := []) (lenOf pd_7 rfl) rfl (by show 2 * 0 + _ ≤ _; exact Nat.le_of_eq rfl) (hb hby d_method_5_code_29) (fun _ _ => ⟨rfl, ek104, (by decide : 0 + 0 ≤ _), (by decide : 0 + 0 ≤ _)⟩)
  dsimp only [Pt.U, Pt.locs, Pt.cells, Pt.slots] at X105 l105 y105 z105 st105 hQ105
  subst l105 y105 z105
  obtain ⟨rfl, Nq105, ek105⟩ := hQ105
  have N105 := Fr.app N104 Nq105
  obtain ⟨v106, _, ⟨T106, L106, k106, n106⟩, -, X106, ⟨Lc106, hQ106, l106, y106, z106⟩, st106⟩ := Jvm.LawKit.callS X105 hx (y := mn33) hown (mvT hZ (wd177 hw)) (mvT hZ (wd178 hw)) (mvT hZ (wd2 hw)) (mvT hZ (wd179 hw)) (by decide) (backOf (W := 0) (rm_eq1 la Z a0 hw [] b hE n0 O P6_) hZ (wd179 hw) (wd2 hw) (by decide) (by decide)) (g := (mkF mi 33 #[.val (.ref g), .val .null, .val (.ref m), .val (.ref b), .val (.ref v)] [(.ref b), (.ref b)])) rfl (by rw [hml]; rfl) (argsL := [(.ref b), (.ref b)]) (rest := []) (lenOf pd_17 rfl) rfl (by show 2 * 0 + _ ≤ _; exact Nat.le_of_eq rfl) (hb hby d_method_5_code_33) (fun _ _ => ⟨rfl, ek105, (by decide : 0 + 0 ≤ _), (by decide : 0 + 0 ≤ _)⟩)
  dsimp only [Pt.U, Pt.locs, Pt.cells, Pt.slots] at X106 l106 y106 z106 st106 hQ106
  subst l106 y106 z106
  obtain ⟨rfl, Nq106, ek106⟩ := hQ106
  have N106 := Fr.app N105 Nq106
  obtain ⟨cq107, kq107, q107a, q107b, q107c⟩ := isOf hZ ek106 P0_
  obtain ⟨v107, _, ⟨T107, L107, k107, n107⟩, -, X107, ⟨Lc107, hQ107, l107, y107, z107⟩, st107⟩ := X106.virtualBack hx (y := mn31) (z := mn31) hown (mvT hZ (wd195 hw)) (mvT hZ (wd196 hw)) (notFace_of_selects (args := #[]) (mvT hZ (wd198 hw))) (mvT hZ (wd198 hw)) (mvT hZ (wd197 hw)) (by decide) (backOf (W := 0) (rm_g_viewName la Z a0 hw [] g v hE n0 O P4_) hZ (wd199 hw) (wd32 hw) (by decide) (by decide)) q107a q107c (g := (mkF mi 40 #[.val (.ref g), .val .null, .val (.ref m), .val (.ref b), .val (.ref v)] [(.ref g)])) rfl (by rw [hml]; rfl) (Steps.refl _) (argsL := []) (rest := []) (lenOf pd_7 rfl) rfl (by show 2 * 0 + _ ≤ _; exact Nat.le_of_eq rfl) (hb hby d_method_5_code_40) (fun _ _ => ⟨rfl, ek106, (by decide : 0 + 0 ≤ _), (by decide : 0 + 0 ≤ _)⟩)
  dsimp only [Pt.U, Pt.locs, Pt.cells, Pt.slots] at X107 l107 y107 z107 st107 hQ107
  subst l107 y107 z107
  obtain ⟨rfl, Nq107, ek107⟩ := hQ107
  have N107 := Fr.app N106 Nq107
  obtain ⟨v108, _, ⟨T108, L108, k108, n108⟩, -, X108, ⟨Lc108, hQ108, l108, y108, z108⟩, st108⟩ := Jvm.LawKit.callS X107 hx (y := mn33) hown (mvT hZ (wd177 hw)) (mvT hZ (wd178 hw)) (mvT hZ (wd2 hw)) (mvT hZ (wd179 hw)) (by decide) (backOf (W := 0) (rm_eq1 la Z a0 hw [] v hE n0 O P7_) hZ (wd179 hw) (wd2 hw) (by decide) (by decide)) (g := (mkF mi 45 #[.val (.ref g), .val .null, .val (.ref m), .val (.ref b), .val (.ref v)] [(.ref v), (.ref v)])) rfl (by rw [hml]; rfl) (argsL := [(.ref v), (.ref v)]) (rest := []) (lenOf pd_17 rfl) rfl (by show 2 * 0 + _ ≤ _; exact Nat.le_of_eq rfl) (hb hby d_method_5_code_45) (fun _ _ => ⟨rfl, ek107, (by decide : 0 + 0 ≤ _), (by decide : 0 + 0 ≤ _)⟩)
  dsimp only [Pt.U, Pt.locs, Pt.cells, Pt.slots] at X108 l108 y108 z108 st108 hQ108
  subst l108 y108 z108
  obtain ⟨rfl, Nq108, ek108⟩ := hQ108
  have N108 := Fr.app N107 Nq108
  obtain ⟨fs, hr, hrun, hended, hW, hsame⟩ := X108.leave (v := some (.int (1 : Int32))) (fun hq => by rw [Bd.returns] at hq; cases hq)
  refine ⟨_, _, pre0 _ ?_, hrun, hended, _, _, rfl, ?_, ⟨_, rfl⟩, hW, hsame.mono (by decide) (by decide)⟩
  · show Steps pg.tables ev below (s₁.setTop (mkF mi 0 #[.val (.ref g), .val .null, .val (.ref m), .val (.ref b), .val (.ref v)] [])) _
    refine XS.aloadN X0.here hx rfl (hb hby d_method_5_code_0) rfl rfl ?_
    refine XS.ifnonnullYes X0.here hx rfl (pc0 := 1) (pc' := 6) rfl (hb hby d_method_5_code_1) rfl (by decide) (by decide) ?_
    refine XS.aloadN X0.here hx rfl (hb hby d_method_5_code_6) rfl rfl ?_
    show Steps pg.tables ev below (s₁.setTop (mkF mi 7 #[.val (.ref g), .val .null, .val (.ref m), .val (.ref b), .val (.ref v)] [(.ref g)])) _
    refine st101.trans ?_
    show Steps pg.tables ev below (T101.setTop (mkF mi 10 #[.val (.ref g), .val .null, .val (.ref m), .val (.ref b), .val (.ref v)] [.null])) _
    refine XS.aloadN X101.here hx rfl (hb hby d_method_5_code_10) rfl rfl ?_
    show Steps pg.tables ev below (T101.setTop (mkF mi 11 #[.val (.ref g), .val .null, .val (.ref m), .val (.ref b), .val (.ref v)] [.null, .null])) _
    refine st102 _ ?_
    show Steps pg.tables ev below (T102.setTop (mkF mi 14 #[.val (.ref g), .val .null, .val (.ref m), .val (.ref b), .val (.ref v)] [(.int (1 : Int32))])) _
    refine XS.ifNo X102.here hx rfl (hb hby d_method_5_code_14) rfl ((if0 _ _).trans (feq (by decide : ¬ ((1 : Int32) = (0 : Int32)))).1) ?_
    refine XS.aloadN X102.here hx rfl (hb hby d_method_5_code_17) rfl rfl ?_
    show Steps pg.tables ev below (T102.setTop (mkF mi 18 #[.val (.ref g), .val .null, .val (.ref m), .val (.ref b), .val (.ref v)] [(.ref g)])) _
    refine st103.trans ?_
    show Steps pg.tables ev below (T103.setTop (mkF mi 21 #[.val (.ref g), .val .null, .val (.ref m), .val (.ref b), .val (.ref v)] [(.ref m)])) _
    refine XS.aloadN X103.here hx rfl (hb hby d_method_5_code_21) rfl rfl ?_
    show Steps pg.tables ev below (T103.setTop (mkF mi 22 #[.val (.ref g), .val .null, .val (.ref m), .val (.ref b), .val (.ref v)] [(.ref m), (.ref m)])) _
    refine st104 _ ?_
    show Steps pg.tables ev below (T104.setTop (mkF mi 25 #[.val (.ref g), .val .null, .val (.ref m), .val (.ref b), .val (.ref v)] [(.int (1 : Int32))])) _
    refine XS.ifNo X104.here hx rfl (hb hby d_method_5_code_25) rfl ((if0 _ _).trans (feq (by decide : ¬ ((1 : Int32) = (0 : Int32)))).1) ?_
    refine XS.aloadN X104.here hx rfl (hb hby d_method_5_code_28) rfl rfl ?_
    show Steps pg.tables ev below (T104.setTop (mkF mi 29 #[.val (.ref g), .val .null, .val (.ref m), .val (.ref b), .val (.ref v)] [(.ref g)])) _
    refine st105.trans ?_
    show Steps pg.tables ev below (T105.setTop (mkF mi 32 #[.val (.ref g), .val .null, .val (.ref m), .val (.ref b), .val (.ref v)] [(.ref b)])) _
    refine XS.aloadN X105.here hx rfl (hb hby d_method_5_code_32) rfl rfl ?_
    show Steps pg.tables ev below (T105.setTop (mkF mi 33 #[.val (.ref g), .val .null, .val (.ref m), .val (.ref b), .val (.ref v)] [(.ref b), (.ref b)])) _
    refine st106 _ ?_
    show Steps pg.tables ev below (T106.setTop (mkF mi 36 #[.val (.ref g), .val .null, .val (.ref m), .val (.ref b), .val (.ref v)] [(.int (1 : Int32))])) _
    refine XS.ifNo X106.here hx rfl (hb hby d_method_5_code_36) rfl ((if0 _ _).trans (feq (by decide : ¬ ((1 : Int32) = (0 : Int32)))).1) ?_
    refine XS.aloadN X106.here hx rfl (hb hby d_method_5_code_39) rfl rfl ?_
    show Steps pg.tables ev below (T106.setTop (mkF mi 40 #[.val (.ref g), .val .null, .val (.ref m), .val (.ref b), .val (.ref v)] [(.ref g)])) _
    refine st107.trans ?_
    show Steps pg.tables ev below (T107.setTop (mkF mi 43 #[.val (.ref g), .val .null, .val (.ref m), .val (.ref b), .val (.ref v)] [(.ref v)])) _
    refine XS.aload X107.here hx rfl (hb hby d_method_5_code_43) rfl rfl ?_
    show Steps pg.tables ev below (T107.setTop (mkF mi 45 #[.val (.ref g), .val .null, .val (.ref m), .val (.ref b), .val (.ref v)] [(.ref v), (.ref v)])) _
    refine st108 _ ?_
    show Steps pg.tables ev below (T108.setTop (mkF mi 48 #[.val (.ref g), .val .null, .val (.ref m), .val (.ref b), .val (.ref v)] [(.int (1 : Int32))])) _
    refine XS.ifNo X108.here hx rfl (hb hby d_method_5_code_48) rfl ((if0 _ _).trans (feq (by decide : ¬ ((1 : Int32) = (0 : Int32)))).1) ?_
    refine XS.iconst X108.here hx rfl (hb hby d_method_5_code_51) ?_
    refine XS.goto X108.here hx rfl (pc0 := 52) (pc' := 56) rfl (hb hby d_method_5_code_52) (by decide) (by decide) ?_
    show Steps pg.tables ev below (T108.setTop (mkF mi 56 #[.val (.ref g), .val .null, .val (.ref m), .val (.ref b), .val (.ref v)] [(.int (1 : Int32))])) _
    exact retN X108 hx (t := .boolean) Bd.returns (by simp) (hb hby d_method_5_code_56) hr
  · show Q_same01 Z g m b v hE n0 _ T108.heap _
    rw [ek108]
    exact ⟨rfl, N108, rfl⟩
theorem ef_same10 (mi : MethodId) (g : Addr) (a : Addr) (m : Addr) (b : Addr) : entryFrame mi #[(.ref g), (.ref a), (.ref m), (.ref b), .null] 5 = mkF mi 0 #[.val (.ref g), .val (.ref a), .val (.ref m), .val (.ref b), .val .null] [] := by first | (simp [entryFrame, mkF, argsToLocals, Value.category]; done) | rfl
def Q_same10 (Z : State) (g : Addr) (a : Addr) (m : Addr) (b : Addr) (hE : Heap) (n0 : Nat) (vv : Option Value) (hh : Heap) (LL : List Loc) : Prop := (vv = some (.int (1 : Int32))) ∧ (Fr n0 LL) ∧ (hh = hE)
set_option maxRecDepth 65536 in
set_option maxHeartbeats 40000000 in
theorem rm_same10 (la : Launch) (Z : State) (a0 : Array Value) (hw : ∀ d ∈ tables_1, d.before a0 Z = true) (ws : List Jvm.Cond) (g : Addr) (a : Addr) (m : Addr) (b : Addr) (hE : Heap) (n0 : Nat) (O : Old Z n0 hE) (P0_ : Exa Z hE g "com/example/beanloft/beanloft/naming/GlobalName") (P1_ : Fld Z hE g "com/example/beanloft/beanloft/naming/GlobalName" "appName" "Ljava/lang/String;" (.ref a)) (P2_ : Fld Z hE g "com/example/beanloft/beanloft/naming/GlobalName" "moduleName" "Ljava/lang/String;" (.ref m)) (P3_ : Fld Z hE g "com/example/beanloft/beanloft/naming/GlobalName" "beanName" "Ljava/lang/String;" (.ref b)) (P4_ : Fld Z hE g "com/example/beanloft/beanloft/naming/GlobalName" "viewName" "Ljava/lang/String;" .null) (P5_ : Exa Z hE a "java/lang/String") (P6_ : Exa Z hE m "java/lang/String") (P7_ : Exa Z hE b "java/lang/String") :
    MetFree la mn34 (head1 (Jvm.Cond.code mn34 method_5_code 5 (some .boolean) :: ws) ({ frames := 2, cells := 0, slots := 0, locals := 27 } : Room)) (fun aa UU => aa = #[(.ref g), (.ref a), (.ref m), (.ref b), .null] ∧ Z.Warmed39 UU.vm ∧ UU.heap = hE) (fun _ _ _ _ _ => True) (fun _ UU oo UV => ∃ vv LL, oo = .returned vv ∧ Q_same10 Z g a m b hE n0 vv UV.heap LL ∧ FrameEnd UU oo UV LL ({ frames := 2, cells := 0, slots := 0, locals := 27 } : Room).cells ({ frames := 2, cells := 0, slots := 0, locals := 27 } : Room).slots) := by
  refine MetFree.of_bodySF (plainFor_of_name pn_com_example_beanloft_beanloft_naming_GlobalNameFormsPinLaw) hisR ?_
  intro pg ev sb mi gs below me cd s₁ Bd hml0 hPt hKt
  obtain ⟨rfl, hZ, hh⟩ := hPt
  have hx := Bd.exec
  have hby := Bd.bytes
  have hml : cd.maxLocals = 5 := hml0
  have hown : sb.vm.findClass "com/example/beanloft/beanloft/naming/GlobalNameFormsPinLaw" = some mi.cls := findClass_of_methodNamed Bd.named
  have hnm := (name_of_methodNamed Bd.named Bd.method).1
  have X0 : Stand pg la ev ({ frames := 2, cells := 0, slots := 0, locals := 27 } : Room) sb mi #[(.ref g), (.ref a), (.ref m), (.ref b), .null] below me cd s₁ [] 0 0 := Stand.of_body Bd
  have eE : s₁.heap = hE := by rw [← hh, Bd.state]; rfl
  have N0 := Fr.nil n0
  have pre0 : ∀ tt, Steps pg.tables ev below (s₁.setTop (mkF mi 0 #[.val (.ref g), .val (.ref a), .val (.ref m), .val (.ref b), .val .null] [])) tt → Steps pg.tables ev below (s₁.setTop (entryFrame mi #[(.ref g), (.ref a), (.ref m), (.ref b), .null] 5)) tt := fun tt kk => castTop (ef_same10 mi g a m b) kk
  obtain ⟨cq101, kq101, q101a, q101b, q101c⟩ := isOf hZ eE P0_
  obtain ⟨v101, _, ⟨T101, L101, k101, n101⟩, -, X101, ⟨Lc101, hQ101, l101, y101, z101⟩, st101⟩ := X0.virtualBack hx (y := mn28) (z := mn28) hown (mvT hZ (wd172 hw)) (mvT hZ (wd173 hw)) (notFace_of_selects (args := #[]) (mvT hZ (wd175 hw))) (mvT hZ (wd175 hw)) (mvT hZ (wd174 hw)) (by decide) (backOf (W := 0) (rm_g_appName la Z a0 hw [] g a hE n0 O P1_) hZ (wd176 hw) (wd32 hw) (by decide) (by decide)) q101a q101c (g := (mkF mi 7 #[.val (.ref g), .val (.ref a), .val (.ref m), .val (.ref b), .val .null] [(.ref g)])) rfl (by rw [hml]; rfl) (Steps.refl _) (argsL := []) (rest := []) (lenOf pd_7 rfl) rfl (by show 2 * 0 + _ ≤ _; exact Nat.le_of_eq rfl) (hb hby d_method_5_code_7) (fun _ _ => ⟨rfl, eE, (by decide : 0 + 0 ≤ _), (by decide : 0 + 0 ≤ _)⟩)
  dsimp only [Pt.U, Pt.locs, Pt.cells, Pt.slots] at X101 l101 y101 z101 st101 hQ101
  subst l101 y101 z101
  obtain ⟨rfl, Nq101, ek101⟩ := hQ101
  have N101 := Fr.app N0 Nq101
  obtain ⟨v102, _, ⟨T102, L102, k102, n102⟩, -, X102, ⟨Lc102, hQ102, l102, y102, z102⟩, st102⟩ := Jvm.LawKit.callS X101 hx (y := mn33) hown (mvT hZ (wd177 hw)) (mvT hZ (wd178 hw)) (mvT hZ (wd2 hw)) (mvT hZ (wd179 hw)) (by decide) (backOf (W := 0) (rm_eq1 la Z a0 hw [] a hE n0 O P5_) hZ (wd179 hw) (wd2 hw) (by decide) (by decide)) (g := (mkF mi 11 #[.val (.ref g), .val (.ref a), .val (.ref m), .val (.ref b), .val .null] [(.ref a), (.ref a)])) rfl (by rw [hml]; rfl) (argsL := [(.ref a), (.ref a)]) (rest := []) (lenOf pd_17 rfl) rfl (by show 2 * 0 + _ ≤ _; exact Nat.le_of_eq rfl) (hb hby d_method_5_code_11) (fun _ _ => ⟨rfl, ek101, (by decide : 0 + 0 ≤ _), (by decide : 0 + 0 ≤ _)⟩)
  dsimp only [Pt.U, Pt.locs, Pt.cells, Pt.slots] at X102 l102 y102 z102 st102 hQ102
  subst l102 y102 z102
  obtain ⟨rfl, Nq102, ek102⟩ := hQ102
  have N102 := Fr.app N101 Nq102
  obtain ⟨cq103, kq103, q103a, q103b, q103c⟩ := isOf hZ ek102 P0_
  obtain ⟨v103, _, ⟨T103, L103, k103, n103⟩, -, X103, ⟨Lc103, hQ103, l103, y103, z103⟩, st103⟩ := X102.virtualBack hx (y := mn29) (z := mn29) hown (mvT hZ (wd180 hw)) (mvT hZ (wd181 hw)) (notFace_of_selects (args := #[]) (mvT hZ (wd183 hw))) (mvT hZ (wd183 hw)) (mvT hZ (wd182 hw)) (by decide) (backOf (W := 0) (rm_g_moduleName la Z a0 hw [] g m hE n0 O P2_) hZ (wd184 hw) (wd32 hw) (by decide) (by decide)) q103a q103c (g := (mkF mi 18 #[.val (.ref g), .val (.ref a), .val (.ref m), .val (.ref b), .val .null] [(.ref g)])) rfl (by rw [hml]; rfl) (Steps.refl _) (argsL := []) (rest := []) (lenOf pd_7 rfl) rfl (by show 2 * 0 + _ ≤ _; exact Nat.le_of_eq rfl) (hb hby d_method_5_code_18) (fun _ _ => ⟨rfl, ek102, (by decide : 0 + 0 ≤ _), (by decide : 0 + 0 ≤ _)⟩)
  dsimp only [Pt.U, Pt.locs, Pt.cells, Pt.slots] at X103 l103 y103 z103 st103 hQ103
  subst l103 y103 z103
  obtain ⟨rfl, Nq103, ek103⟩ := hQ103
  have N103 := Fr.app N102 Nq103
  obtain ⟨v104, _, ⟨T104, L104, k104, n104⟩, -, X104, ⟨Lc104, hQ104, l104, y104, z104⟩, st104⟩ := Jvm.LawKit.callS X103 hx (y := mn33) hown (mvT hZ (wd177 hw)) (mvT hZ (wd178 hw)) (mvT hZ (wd2 hw)) (mvT hZ (wd179 hw)) (by decide) (backOf (W := 0) (rm_eq1 la Z a0 hw [] m hE n0 O P6_) hZ (wd179 hw) (wd2 hw) (by decide) (by decide)) (g := (mkF mi 22 #[.val (.ref g), .val (.ref a), .val (.ref m), .val (.ref b), .val .null] [(.ref m), (.ref m)])) rfl (by rw [hml]; rfl) (argsL := [(.ref m), (.ref m)]) (rest := []) (lenOf pd_17 rfl) rfl (by show 2 * 0 + _ ≤ _; exact Nat.le_of_eq rfl) (hb hby d_method_5_code_22) (fun _ _ => ⟨rfl, ek103, (by decide : 0 + 0 ≤ _), (by decide : 0 + 0 ≤ _)⟩)
  dsimp only [Pt.U, Pt.locs, Pt.cells, Pt.slots] at X104 l104 y104 z104 st104 hQ104
  subst l104 y104 z104
  obtain ⟨rfl, Nq104, ek104⟩ := hQ104
  have N104 := Fr.app N103 Nq104
  obtain ⟨cq105, kq105, q105a, q105b, q105c⟩ := isOf hZ ek104 P0_
  obtain ⟨v105, _, ⟨T105, L105, k105, n105⟩, -, X105, ⟨Lc105, hQ105, l105, y105, z105⟩, st105⟩ := X104.virtualBack hx (y := mn30) (z := mn30) hown (mvT hZ (wd190 hw)) (mvT hZ (wd191 hw)) (notFace_of_selects (args := #[]) (mvT hZ (wd193 hw))) (mvT hZ (wd193 hw)) (mvT hZ (wd192 hw)) (by decide) (backOf (W := 0) (rm_g_beanName la Z a0 hw [] g b hE n0 O P3_) hZ (wd194 hw) (wd32 hw) (by decide) (by decide)) q105a q105c (g := (mkF mi 29 #[.val (.ref g), .val (.ref a), .val (.ref m), .val (.ref b), .val .null] [(.ref g)])) rfl (by rw [hml]; rfl) (Steps.refl _) (argsL := []) (rest := []) (lenOf pd_7 rfl) rfl (by show 2 * 0 + _ ≤ _; exact Nat.le_of_eq rfl) (hb hby d_method_5_code_29) (fun _ _ => ⟨rfl, ek104, (by decide : 0 + 0 ≤ _), (by decide : 0 + 0 ≤ _)⟩)
  dsimp only [Pt.U, Pt.locs, Pt.cells, Pt.slots] at X105 l105 y105 z105 st105 hQ105
  subst l105 y105 z105
  obtain ⟨rfl, Nq105, ek105⟩ := hQ105
  have N105 := Fr.app N104 Nq105
  obtain ⟨v106, _, ⟨T106, L106, k106, n106⟩, -, X106, ⟨Lc106, hQ106, l106, y106, z106⟩, st106⟩ := Jvm.LawKit.callS X105 hx (y := mn33) hown (mvT hZ (wd177 hw)) (mvT hZ (wd178 hw)) (mvT hZ (wd2 hw)) (mvT hZ (wd179 hw)) (by decide) (backOf (W := 0) (rm_eq1 la Z a0 hw [] b hE n0 O P7_) hZ (wd179 hw) (wd2 hw) (by decide) (by decide)) (g := (mkF mi 33 #[.val (.ref g), .val (.ref a), .val (.ref m), .val (.ref b), .val .null] [(.ref b), (.ref b)])) rfl (by rw [hml]; rfl) (argsL := [(.ref b), (.ref b)]) (rest := []) (lenOf pd_17 rfl) rfl (by show 2 * 0 + _ ≤ _; exact Nat.le_of_eq rfl) (hb hby d_method_5_code_33) (fun _ _ => ⟨rfl, ek105, (by decide : 0 + 0 ≤ _), (by decide : 0 + 0 ≤ _)⟩)
  dsimp only [Pt.U, Pt.locs, Pt.cells, Pt.slots] at X106 l106 y106 z106 st106 hQ106
  subst l106 y106 z106
  obtain ⟨rfl, Nq106, ek106⟩ := hQ106
  have N106 := Fr.app N105 Nq106
  obtain ⟨cq107, kq107, q107a, q107b, q107c⟩ := isOf hZ ek106 P0_
  obtain ⟨v107, _, ⟨T107, L107, k107, n107⟩, -, X107, ⟨Lc107, hQ107, l107, y107, z107⟩, st107⟩ := X106.virtualBack hx (y := mn31) (z := mn31) hown (mvT hZ (wd195 hw)) (mvT hZ (wd196 hw)) (notFace_of_selects (args := #[]) (mvT hZ (wd198 hw))) (mvT hZ (wd198 hw)) (mvT hZ (wd197 hw)) (by decide) (backOf (W := 0) (rm_gN_viewName la Z a0 hw [] g hE n0 O P4_) hZ (wd199 hw) (wd32 hw) (by decide) (by decide)) q107a q107c (g := (mkF mi 40 #[.val (.ref g), .val (.ref a), .val (.ref m), .val (.ref b), .val .null] [(.ref g)])) rfl (by rw [hml]; rfl) (Steps.refl _) (argsL := []) (rest := []) (lenOf pd_7 rfl) rfl (by show 2 * 0 + _ ≤ _; exact Nat.le_of_eq rfl) (hb hby d_method_5_code_40) (fun _ _ => ⟨rfl, ek106, (by decide : 0 + 0 ≤ _), (by decide : 0 + 0 ≤ _)⟩)
  dsimp only [Pt.U, Pt.locs, Pt.cells, Pt.slots] at X107 l107 y107 z107 st107 hQ107
  subst l107 y107 z107
  obtain ⟨rfl, Nq107, ek107⟩ := hQ107
  have N107 := Fr.app N106 Nq107
  obtain ⟨v108, _, ⟨T108, L108, k108, n108⟩, -, X108, ⟨Lc108, hQ108, l108, y108, z108⟩, st108⟩ := Jvm.LawKit.callS X107 hx (y := mn33) hown (mvT hZ (wd177 hw)) (mvT hZ (wd178 hw)) (mvT hZ (wd2 hw)) (mvT hZ (wd179 hw)) (by decide) (backOf (W := 0) (rm_eq0 la Z a0 hw []  hE n0 O) hZ (wd179 hw) (wd2 hw) (by decide) (by decide)) (g := (mkF mi 45 #[.val (.ref g), .val (.ref a), .val (.ref m), .val (.ref b), .val .null] [.null, .null])) rfl (by rw [hml]; rfl) (argsL := [.null, .null]) (rest := []) (lenOf pd_17 rfl) rfl (by show 2 * 0 + _ ≤ _; exact Nat.le_of_eq rfl) (hb hby d_method_5_code_45) (fun _ _ => ⟨rfl, ek107, (by decide : 0 + 0 ≤ _), (by decide : 0 + 0 ≤ _)⟩)
  dsimp only [Pt.U, Pt.locs, Pt.cells, Pt.slots] at X108 l108 y108 z108 st108 hQ108
  subst l108 y108 z108
  obtain ⟨rfl, Nq108, ek108⟩ := hQ108
  have N108 := Fr.app N107 Nq108
  obtain ⟨fs, hr, hrun, hended, hW, hsame⟩ := X108.leave (v := some (.int (1 : Int32))) (fun hq => by rw [Bd.returns] at hq; cases hq)
  refine ⟨_, _, pre0 _ ?_, hrun, hended, _, _, rfl, ?_, ⟨_, rfl⟩, hW, hsame.mono (by decide) (by decide)⟩
  · show Steps pg.tables ev below (s₁.setTop (mkF mi 0 #[.val (.ref g), .val (.ref a), .val (.ref m), .val (.ref b), .val .null] [])) _
    refine XS.aloadN X0.here hx rfl (hb hby d_method_5_code_0) rfl rfl ?_
    refine XS.ifnonnullYes X0.here hx rfl (pc0 := 1) (pc' := 6) rfl (hb hby d_method_5_code_1) rfl (by decide) (by decide) ?_
    refine XS.aloadN X0.here hx rfl (hb hby d_method_5_code_6) rfl rfl ?_
    show Steps pg.tables ev below (s₁.setTop (mkF mi 7 #[.val (.ref g), .val (.ref a), .val (.ref m), .val (.ref b), .val .null] [(.ref g)])) _
    refine st101.trans ?_
    show Steps pg.tables ev below (T101.setTop (mkF mi 10 #[.val (.ref g), .val (.ref a), .val (.ref m), .val (.ref b), .val .null] [(.ref a)])) _
    refine XS.aloadN X101.here hx rfl (hb hby d_method_5_code_10) rfl rfl ?_
    show Steps pg.tables ev below (T101.setTop (mkF mi 11 #[.val (.ref g), .val (.ref a), .val (.ref m), .val (.ref b), .val .null] [(.ref a), (.ref a)])) _
    refine st102 _ ?_
    show Steps pg.tables ev below (T102.setTop (mkF mi 14 #[.val (.ref g), .val (.ref a), .val (.ref m), .val (.ref b), .val .null] [(.int (1 : Int32))])) _
    refine XS.ifNo X102.here hx rfl (hb hby d_method_5_code_14) rfl ((if0 _ _).trans (feq (by decide : ¬ ((1 : Int32) = (0 : Int32)))).1) ?_
    refine XS.aloadN X102.here hx rfl (hb hby d_method_5_code_17) rfl rfl ?_
    show Steps pg.tables ev below (T102.setTop (mkF mi 18 #[.val (.ref g), .val (.ref a), .val (.ref m), .val (.ref b), .val .null] [(.ref g)])) _
    refine st103.trans ?_
    show Steps pg.tables ev below (T103.setTop (mkF mi 21 #[.val (.ref g), .val (.ref a), .val (.ref m), .val (.ref b), .val .null] [(.ref m)])) _
    refine XS.aloadN X103.here hx rfl (hb hby d_method_5_code_21) rfl rfl ?_
    show Steps pg.tables ev below (T103.setTop (mkF mi 22 #[.val (.ref g), .val (.ref a), .val (.ref m), .val (.ref b), .val .null] [(.ref m), (.ref m)])) _
    refine st104 _ ?_
    show Steps pg.tables ev below (T104.setTop (mkF mi 25 #[.val (.ref g), .val (.ref a), .val (.ref m), .val (.ref b), .val .null] [(.int (1 : Int32))])) _
    refine XS.ifNo X104.here hx rfl (hb hby d_method_5_code_25) rfl ((if0 _ _).trans (feq (by decide : ¬ ((1 : Int32) = (0 : Int32)))).1) ?_
    refine XS.aloadN X104.here hx rfl (hb hby d_method_5_code_28) rfl rfl ?_
    show Steps pg.tables ev below (T104.setTop (mkF mi 29 #[.val (.ref g), .val (.ref a), .val (.ref m), .val (.ref b), .val .null] [(.ref g)])) _
    refine st105.trans ?_
    show Steps pg.tables ev below (T105.setTop (mkF mi 32 #[.val (.ref g), .val (.ref a), .val (.ref m), .val (.ref b), .val .null] [(.ref b)])) _
    refine XS.aloadN X105.here hx rfl (hb hby d_method_5_code_32) rfl rfl ?_
    show Steps pg.tables ev below (T105.setTop (mkF mi 33 #[.val (.ref g), .val (.ref a), .val (.ref m), .val (.ref b), .val .null] [(.ref b), (.ref b)])) _
    refine st106 _ ?_
    show Steps pg.tables ev below (T106.setTop (mkF mi 36 #[.val (.ref g), .val (.ref a), .val (.ref m), .val (.ref b), .val .null] [(.int (1 : Int32))])) _
    refine XS.ifNo X106.here hx rfl (hb hby d_method_5_code_36) rfl ((if0 _ _).trans (feq (by decide : ¬ ((1 : Int32) = (0 : Int32)))).1) ?_
    refine XS.aloadN X106.here hx rfl (hb hby d_method_5_code_39) rfl rfl ?_
    show Steps pg.tables ev below (T106.setTop (mkF mi 40 #[.val (.ref g), .val (.ref a), .val (.ref m), .val (.ref b), .val .null] [(.ref g)])) _
    refine st107.trans ?_
    show Steps pg.tables ev below (T107.setTop (mkF mi 43 #[.val (.ref g), .val (.ref a), .val (.ref m), .val (.ref b), .val .null] [.null])) _
    refine XS.aload X107.here hx rfl (hb hby d_method_5_code_43) rfl rfl ?_
    show Steps pg.tables ev below (T107.setTop (mkF mi 45 #[.val (.ref g), .val (.ref a), .val (.ref m), .val (.ref b), .val .null] [.null, .null])) _
    refine st108 _ ?_
    show Steps pg.tables ev below (T108.setTop (mkF mi 48 #[.val (.ref g), .val (.ref a), .val (.ref m), .val (.ref b), .val .null] [(.int (1 : Int32))])) _
    refine XS.ifNo X108.here hx rfl (hb hby d_method_5_code_48) rfl ((if0 _ _).trans (feq (by decide : ¬ ((1 : Int32) = (0 : Int32)))).1) ?_
    refine XS.iconst X108.here hx rfl (hb hby d_method_5_code_51) ?_
    refine XS.goto X108.here hx rfl (pc0 := 52) (pc' := 56) rfl (hb hby d_method_5_code_52) (by decide) (by decide) ?_
    show Steps pg.tables ev below (T108.setTop (mkF mi 56 #[.val (.ref g), .val (.ref a), .val (.ref m), .val (.ref b), .val .null] [(.int (1 : Int32))])) _
    exact retN X108 hx (t := .boolean) Bd.returns (by simp) (hb hby d_method_5_code_56) hr
  · show Q_same10 Z g a m b hE n0 _ T108.heap _
    rw [ek108]
    exact ⟨rfl, N108, rfl⟩
theorem ef_same11 (mi : MethodId) (g : Addr) (a : Addr) (m : Addr) (b : Addr) (v : Addr) : entryFrame mi #[(.ref g), (.ref a), (.ref m), (.ref b), (.ref v)] 5 = mkF mi 0 #[.val (.ref g), .val (.ref a), .val (.ref m), .val (.ref b), .val (.ref v)] [] := by first | (simp [entryFrame, mkF, argsToLocals, Value.category]; done) | rfl
def Q_same11 (Z : State) (g : Addr) (a : Addr) (m : Addr) (b : Addr) (v : Addr) (hE : Heap) (n0 : Nat) (vv : Option Value) (hh : Heap) (LL : List Loc) : Prop := (vv = some (.int (1 : Int32))) ∧ (Fr n0 LL) ∧ (hh = hE)
set_option maxRecDepth 65536 in
set_option maxHeartbeats 40000000 in
theorem rm_same11 (la : Launch) (Z : State) (a0 : Array Value) (hw : ∀ d ∈ tables_1, d.before a0 Z = true) (ws : List Jvm.Cond) (g : Addr) (a : Addr) (m : Addr) (b : Addr) (v : Addr) (hE : Heap) (n0 : Nat) (O : Old Z n0 hE) (P0_ : Exa Z hE g "com/example/beanloft/beanloft/naming/GlobalName") (P1_ : Fld Z hE g "com/example/beanloft/beanloft/naming/GlobalName" "appName" "Ljava/lang/String;" (.ref a)) (P2_ : Fld Z hE g "com/example/beanloft/beanloft/naming/GlobalName" "moduleName" "Ljava/lang/String;" (.ref m)) (P3_ : Fld Z hE g "com/example/beanloft/beanloft/naming/GlobalName" "beanName" "Ljava/lang/String;" (.ref b)) (P4_ : Fld Z hE g "com/example/beanloft/beanloft/naming/GlobalName" "viewName" "Ljava/lang/String;" (.ref v)) (P5_ : Exa Z hE a "java/lang/String") (P6_ : Exa Z hE m "java/lang/String") (P7_ : Exa Z hE b "java/lang/String") (P8_ : Exa Z hE v "java/lang/String") :
    MetFree la mn34 (head1 (Jvm.Cond.code mn34 method_5_code 5 (some .boolean) :: ws) ({ frames := 2, cells := 0, slots := 0, locals := 27 } : Room)) (fun aa UU => aa = #[(.ref g), (.ref a), (.ref m), (.ref b), (.ref v)] ∧ Z.Warmed39 UU.vm ∧ UU.heap = hE) (fun _ _ _ _ _ => True) (fun _ UU oo UV => ∃ vv LL, oo = .returned vv ∧ Q_same11 Z g a m b v hE n0 vv UV.heap LL ∧ FrameEnd UU oo UV LL ({ frames := 2, cells := 0, slots := 0, locals := 27 } : Room).cells ({ frames := 2, cells := 0, slots := 0, locals := 27 } : Room).slots) := by
  refine MetFree.of_bodySF (plainFor_of_name pn_com_example_beanloft_beanloft_naming_GlobalNameFormsPinLaw) hisR ?_
  intro pg ev sb mi gs below me cd s₁ Bd hml0 hPt hKt
  obtain ⟨rfl, hZ, hh⟩ := hPt
  have hx := Bd.exec
  have hby := Bd.bytes
  have hml : cd.maxLocals = 5 := hml0
  have hown : sb.vm.findClass "com/example/beanloft/beanloft/naming/GlobalNameFormsPinLaw" = some mi.cls := findClass_of_methodNamed Bd.named
  have hnm := (name_of_methodNamed Bd.named Bd.method).1
  have X0 : Stand pg la ev ({ frames := 2, cells := 0, slots := 0, locals := 27 } : Room) sb mi #[(.ref g), (.ref a), (.ref m), (.ref b), (.ref v)] below me cd s₁ [] 0 0 := Stand.of_body Bd
  have eE : s₁.heap = hE := by rw [← hh, Bd.state]; rfl
  have N0 := Fr.nil n0
  have pre0 : ∀ tt, Steps pg.tables ev below (s₁.setTop (mkF mi 0 #[.val (.ref g), .val (.ref a), .val (.ref m), .val (.ref b), .val (.ref v)] [])) tt → Steps pg.tables ev below (s₁.setTop (entryFrame mi #[(.ref g), (.ref a), (.ref m), (.ref b), (.ref v)] 5)) tt := fun tt kk => castTop (ef_same11 mi g a m b v) kk
  obtain ⟨cq101, kq101, q101a, q101b, q101c⟩ := isOf hZ eE P0_
  obtain ⟨v101, _, ⟨T101, L101, k101, n101⟩, -, X101, ⟨Lc101, hQ101, l101, y101, z101⟩, st101⟩ := X0.virtualBack hx (y := mn28) (z := mn28) hown (mvT hZ (wd172 hw)) (mvT hZ (wd173 hw)) (notFace_of_selects (args := #[]) (mvT hZ (wd175 hw))) (mvT hZ (wd175 hw)) (mvT hZ (wd174 hw)) (by decide) (backOf (W := 0) (rm_g_appName la Z a0 hw [] g a hE n0 O P1_) hZ (wd176 hw) (wd32 hw) (by decide) (by decide)) q101a q101c (g := (mkF mi 7 #[.val (.ref g), .val (.ref a), .val (.ref m), .val (.ref b), .val (.ref v)] [(.ref g)])) rfl (by rw [hml]; rfl) (Steps.refl _) (argsL := []) (rest := []) (lenOf pd_7 rfl) rfl (by show 2 * 0 + _ ≤ _; exact Nat.le_of_eq rfl) (hb hby d_method_5_code_7) (fun _ _ => ⟨rfl, eE, (by decide : 0 + 0 ≤ _), (by decide : 0 + 0 ≤ _)⟩)
  dsimp only [Pt.U, Pt.locs, Pt.cells, Pt.slots] at X101 l101 y101 z101 st101 hQ101
  subst l101 y101 z101
  obtain ⟨rfl, Nq101, ek101⟩ := hQ101
  have N101 := Fr.app N0 Nq101
  obtain ⟨v102, _, ⟨T102, L102, k102, n102⟩, -, X102, ⟨Lc102, hQ102, l102, y102, z102⟩, st102⟩ := Jvm.LawKit.callS X101 hx (y := mn33) hown (mvT hZ (wd177 hw)) (mvT hZ (wd178 hw)) (mvT hZ (wd2 hw)) (mvT hZ (wd179 hw)) (by decide) (backOf (W := 0) (rm_eq1 la Z a0 hw [] a hE n0 O P5_) hZ (wd179 hw) (wd2 hw) (by decide) (by decide)) (g := (mkF mi 11 #[.val (.ref g), .val (.ref a), .val (.ref m), .val (.ref b), .val (.ref v)] [(.ref a), (.ref a)])) rfl (by rw [hml]; rfl) (argsL := [(.ref a), (.ref a)]) (rest := []) (lenOf pd_17 rfl) rfl (by show 2 * 0 + _ ≤ _; exact Nat.le_of_eq rfl) (hb hby d_method_5_code_11) (fun _ _ => ⟨rfl, ek101, (by decide : 0 + 0 ≤ _), (by decide : 0 + 0 ≤ _)⟩)
  dsimp only [Pt.U, Pt.locs, Pt.cells, Pt.slots] at X102 l102 y102 z102 st102 hQ102
  subst l102 y102 z102
  obtain ⟨rfl, Nq102, ek102⟩ := hQ102
  have N102 := Fr.app N101 Nq102
  obtain ⟨cq103, kq103, q103a, q103b, q103c⟩ := isOf hZ ek102 P0_
  obtain ⟨v103, _, ⟨T103, L103, k103, n103⟩, -, X103, ⟨Lc103, hQ103, l103, y103, z103⟩, st103⟩ := X102.virtualBack hx (y := mn29) (z := mn29) hown (mvT hZ (wd180 hw)) (mvT hZ (wd181 hw)) (notFace_of_selects (args := #[]) (mvT hZ (wd183 hw))) (mvT hZ (wd183 hw)) (mvT hZ (wd182 hw)) (by decide) (backOf (W := 0) (rm_g_moduleName la Z a0 hw [] g m hE n0 O P2_) hZ (wd184 hw) (wd32 hw) (by decide) (by decide)) q103a q103c (g := (mkF mi 18 #[.val (.ref g), .val (.ref a), .val (.ref m), .val (.ref b), .val (.ref v)] [(.ref g)])) rfl (by rw [hml]; rfl) (Steps.refl _) (argsL := []) (rest := []) (lenOf pd_7 rfl) rfl (by show 2 * 0 + _ ≤ _; exact Nat.le_of_eq rfl) (hb hby d_method_5_code_18) (fun _ _ => ⟨rfl, ek102, (by decide : 0 + 0 ≤ _), (by decide : 0 + 0 ≤ _)⟩)
  dsimp only [Pt.U, Pt.locs, Pt.cells, Pt.slots] at X103 l103 y103 z103 st103 hQ103
  subst l103 y103 z103
  obtain ⟨rfl, Nq103, ek103⟩ := hQ103
  have N103 := Fr.app N102 Nq103
  obtain ⟨v104, _, ⟨T104, L104, k104, n104⟩, -, X104, ⟨Lc104, hQ104, l104, y104, z104⟩, st104⟩ := Jvm.LawKit.callS X103 hx (y := mn33) hown (mvT hZ (wd177 hw)) (mvT hZ (wd178 hw)) (mvT hZ (wd2 hw)) (mvT hZ (wd179 hw)) (by decide) (backOf (W := 0) (rm_eq1 la Z a0 hw [] m hE n0 O P6_) hZ (wd179 hw) (wd2 hw) (by decide) (by decide)) (g := (mkF mi 22 #[.val (.ref g), .val (.ref a), .val (.ref m), .val (.ref b), .val (.ref v)] [(.ref m), (.ref m)])) rfl (by rw [hml]; rfl) (argsL := [(.ref m), (.ref m)]) (rest := []) (lenOf pd_17 rfl) rfl (by show 2 * 0 + _ ≤ _; exact Nat.le_of_eq rfl) (hb hby d_method_5_code_22) (fun _ _ => ⟨rfl, ek103, (by decide : 0 + 0 ≤ _), (by decide : 0 + 0 ≤ _)⟩)
  dsimp only [Pt.U, Pt.locs, Pt.cells, Pt.slots] at X104 l104 y104 z104 st104 hQ104
  subst l104 y104 z104
  obtain ⟨rfl, Nq104, ek104⟩ := hQ104
  have N104 := Fr.app N103 Nq104
  obtain ⟨cq105, kq105, q105a, q105b, q105c⟩ := isOf hZ ek104 P0_
  obtain ⟨v105, _, ⟨T105, L105, k105, n105⟩, -, X105, ⟨Lc105, hQ105, l105, y105, z105⟩, st105⟩ := X104.virtualBack hx (y := mn30) (z := mn30) hown (mvT hZ (wd190 hw)) (mvT hZ (wd191 hw)) (notFace_of_selects (args := #[]) (mvT hZ (wd193 hw))) (mvT hZ (wd193 hw)) (mvT hZ (wd192 hw)) (by decide) (backOf (W := 0) (rm_g_beanName la Z a0 hw [] g b hE n0 O P3_) hZ (wd194 hw) (wd32 hw) (by decide) (by decide)) q105a q105c (g := (mkF mi 29 #[.val (.ref g), .val (.ref a), .val (.ref m), .val (.ref b), .val (.ref v)] [(.ref g)])) rfl (by rw [hml]; rfl) (Steps.refl _) (argsL := []) (rest := []) (lenOf pd_7 rfl) rfl (by show 2 * 0 + _ ≤ _; exact Nat.le_of_eq rfl) (hb hby d_method_5_code_29) (fun _ _ => ⟨rfl, ek104, (by decide : 0 + 0 ≤ _), (by decide : 0 + 0 ≤ _)⟩)
  dsimp only [Pt.U, Pt.locs, Pt.cells, Pt.slots] at X105 l105 y105 z105 st105 hQ105
  subst l105 y105 z105
  obtain ⟨rfl, Nq105, ek105⟩ := hQ105
  have N105 := Fr.app N104 Nq105
  obtain ⟨v106, _, ⟨T106, L106, k106, n106⟩, -, X106, ⟨Lc106, hQ106, l106, y106, z106⟩, st106⟩ := Jvm.LawKit.callS X105 hx (y := mn33) hown (mvT hZ (wd177 hw)) (mvT hZ (wd178 hw)) (mvT hZ (wd2 hw)) (mvT hZ (wd179 hw)) (by decide) (backOf (W := 0) (rm_eq1 la Z a0 hw [] b hE n0 O P7_) hZ (wd179 hw) (wd2 hw) (by decide) (by decide)) (g := (mkF mi 33 #[.val (.ref g), .val (.ref a), .val (.ref m), .val (.ref b), .val (.ref v)] [(.ref b), (.ref b)])) rfl (by rw [hml]; rfl) (argsL := [(.ref b), (.ref b)]) (rest := []) (lenOf pd_17 rfl) rfl (by show 2 * 0 + _ ≤ _; exact Nat.le_of_eq rfl) (hb hby d_method_5_code_33) (fun _ _ => ⟨rfl, ek105, (by decide : 0 + 0 ≤ _), (by decide : 0 + 0 ≤ _)⟩)
  dsimp only [Pt.U, Pt.locs, Pt.cells, Pt.slots] at X106 l106 y106 z106 st106 hQ106
  subst l106 y106 z106
  obtain ⟨rfl, Nq106, ek106⟩ := hQ106
  have N106 := Fr.app N105 Nq106
  obtain ⟨cq107, kq107, q107a, q107b, q107c⟩ := isOf hZ ek106 P0_
  obtain ⟨v107, _, ⟨T107, L107, k107, n107⟩, -, X107, ⟨Lc107, hQ107, l107, y107, z107⟩, st107⟩ := X106.virtualBack hx (y := mn31) (z := mn31) hown (mvT hZ (wd195 hw)) (mvT hZ (wd196 hw)) (notFace_of_selects (args := #[]) (mvT hZ (wd198 hw))) (mvT hZ (wd198 hw)) (mvT hZ (wd197 hw)) (by decide) (backOf (W := 0) (rm_g_viewName la Z a0 hw [] g v hE n0 O P4_) hZ (wd199 hw) (wd32 hw) (by decide) (by decide)) q107a q107c (g := (mkF mi 40 #[.val (.ref g), .val (.ref a), .val (.ref m), .val (.ref b), .val (.ref v)] [(.ref g)])) rfl (by rw [hml]; rfl) (Steps.refl _) (argsL := []) (rest := []) (lenOf pd_7 rfl) rfl (by show 2 * 0 + _ ≤ _; exact Nat.le_of_eq rfl) (hb hby d_method_5_code_40) (fun _ _ => ⟨rfl, ek106, (by decide : 0 + 0 ≤ _), (by decide : 0 + 0 ≤ _)⟩)
  dsimp only [Pt.U, Pt.locs, Pt.cells, Pt.slots] at X107 l107 y107 z107 st107 hQ107
  subst l107 y107 z107
  obtain ⟨rfl, Nq107, ek107⟩ := hQ107
  have N107 := Fr.app N106 Nq107
  obtain ⟨v108, _, ⟨T108, L108, k108, n108⟩, -, X108, ⟨Lc108, hQ108, l108, y108, z108⟩, st108⟩ := Jvm.LawKit.callS X107 hx (y := mn33) hown (mvT hZ (wd177 hw)) (mvT hZ (wd178 hw)) (mvT hZ (wd2 hw)) (mvT hZ (wd179 hw)) (by decide) (backOf (W := 0) (rm_eq1 la Z a0 hw [] v hE n0 O P8_) hZ (wd179 hw) (wd2 hw) (by decide) (by decide)) (g := (mkF mi 45 #[.val (.ref g), .val (.ref a), .val (.ref m), .val (.ref b), .val (.ref v)] [(.ref v), (.ref v)])) rfl (by rw [hml]; rfl) (argsL := [(.ref v), (.ref v)]) (rest := []) (lenOf pd_17 rfl) rfl (by show 2 * 0 + _ ≤ _; exact Nat.le_of_eq rfl) (hb hby d_method_5_code_45) (fun _ _ => ⟨rfl, ek107, (by decide : 0 + 0 ≤ _), (by decide : 0 + 0 ≤ _)⟩)
  dsimp only [Pt.U, Pt.locs, Pt.cells, Pt.slots] at X108 l108 y108 z108 st108 hQ108
  subst l108 y108 z108
  obtain ⟨rfl, Nq108, ek108⟩ := hQ108
  have N108 := Fr.app N107 Nq108
  obtain ⟨fs, hr, hrun, hended, hW, hsame⟩ := X108.leave (v := some (.int (1 : Int32))) (fun hq => by rw [Bd.returns] at hq; cases hq)
  refine ⟨_, _, pre0 _ ?_, hrun, hended, _, _, rfl, ?_, ⟨_, rfl⟩, hW, hsame.mono (by decide) (by decide)⟩
  · show Steps pg.tables ev below (s₁.setTop (mkF mi 0 #[.val (.ref g), .val (.ref a), .val (.ref m), .val (.ref b), .val (.ref v)] [])) _
    refine XS.aloadN X0.here hx rfl (hb hby d_method_5_code_0) rfl rfl ?_
    refine XS.ifnonnullYes X0.here hx rfl (pc0 := 1) (pc' := 6) rfl (hb hby d_method_5_code_1) rfl (by decide) (by decide) ?_
    refine XS.aloadN X0.here hx rfl (hb hby d_method_5_code_6) rfl rfl ?_
    show Steps pg.tables ev below (s₁.setTop (mkF mi 7 #[.val (.ref g), .val (.ref a), .val (.ref m), .val (.ref b), .val (.ref v)] [(.ref g)])) _
    refine st101.trans ?_
    show Steps pg.tables ev below (T101.setTop (mkF mi 10 #[.val (.ref g), .val (.ref a), .val (.ref m), .val (.ref b), .val (.ref v)] [(.ref a)])) _
    refine XS.aloadN X101.here hx rfl (hb hby d_method_5_code_10) rfl rfl ?_
    show Steps pg.tables ev below (T101.setTop (mkF mi 11 #[.val (.ref g), .val (.ref a), .val (.ref m), .val (.ref b), .val (.ref v)] [(.ref a), (.ref a)])) _
    refine st102 _ ?_
    show Steps pg.tables ev below (T102.setTop (mkF mi 14 #[.val (.ref g), .val (.ref a), .val (.ref m), .val (.ref b), .val (.ref v)] [(.int (1 : Int32))])) _
    refine XS.ifNo X102.here hx rfl (hb hby d_method_5_code_14) rfl ((if0 _ _).trans (feq (by decide : ¬ ((1 : Int32) = (0 : Int32)))).1) ?_
    refine XS.aloadN X102.here hx rfl (hb hby d_method_5_code_17) rfl rfl ?_
    show Steps pg.tables ev below (T102.setTop (mkF mi 18 #[.val (.ref g), .val (.ref a), .val (.ref m), .val (.ref b), .val (.ref v)] [(.ref g)])) _
    refine st103.trans ?_
    show Steps pg.tables ev below (T103.setTop (mkF mi 21 #[.val (.ref g), .val (.ref a), .val (.ref m), .val (.ref b), .val (.ref v)] [(.ref m)])) _
    refine XS.aloadN X103.here hx rfl (hb hby d_method_5_code_21) rfl rfl ?_
    show Steps pg.tables ev below (T103.setTop (mkF mi 22 #[.val (.ref g), .val (.ref a), .val (.ref m), .val (.ref b), .val (.ref v)] [(.ref m), (.ref m)])) _
    refine st104 _ ?_
    show Steps pg.tables ev below (T104.setTop (mkF mi 25 #[.val (.ref g), .val (.ref a), .val (.ref m), .val (.ref b), .val (.ref v)] [(.int (1 : Int32))])) _
    refine XS.ifNo X104.here hx rfl (hb hby d_method_5_code_25) rfl ((if0 _ _).trans (feq (by decide : ¬ ((1 : Int32) = (0 : Int32)))).1) ?_
    refine XS.aloadN X104.here hx rfl (hb hby d_method_5_code_28) rfl rfl ?_
    show Steps pg.tables ev below (T104.setTop (mkF mi 29 #[.val (.ref g), .val (.ref a), .val (.ref m), .val (.ref b), .val (.ref v)] [(.ref g)])) _
    refine st105.trans ?_
    show Steps pg.tables ev below (T105.setTop (mkF mi 32 #[.val (.ref g), .val (.ref a), .val (.ref m), .val (.ref b), .val (.ref v)] [(.ref b)])) _
    refine XS.aloadN X105.here hx rfl (hb hby d_method_5_code_32) rfl rfl ?_
    show Steps pg.tables ev below (T105.setTop (mkF mi 33 #[.val (.ref g), .val (.ref a), .val (.ref m), .val (.ref b), .val (.ref v)] [(.ref b), (.ref b)])) _
    refine st106 _ ?_
    show Steps pg.tables ev below (T106.setTop (mkF mi 36 #[.val (.ref g), .val (.ref a), .val (.ref m), .val (.ref b), .val (.ref v)] [(.int (1 : Int32))])) _
    refine XS.ifNo X106.here hx rfl (hb hby d_method_5_code_36) rfl ((if0 _ _).trans (feq (by decide : ¬ ((1 : Int32) = (0 : Int32)))).1) ?_
    refine XS.aloadN X106.here hx rfl (hb hby d_method_5_code_39) rfl rfl ?_
    show Steps pg.tables ev below (T106.setTop (mkF mi 40 #[.val (.ref g), .val (.ref a), .val (.ref m), .val (.ref b), .val (.ref v)] [(.ref g)])) _
    refine st107.trans ?_
    show Steps pg.tables ev below (T107.setTop (mkF mi 43 #[.val (.ref g), .val (.ref a), .val (.ref m), .val (.ref b), .val (.ref v)] [(.ref v)])) _
    refine XS.aload X107.here hx rfl (hb hby d_method_5_code_43) rfl rfl ?_
    show Steps pg.tables ev below (T107.setTop (mkF mi 45 #[.val (.ref g), .val (.ref a), .val (.ref m), .val (.ref b), .val (.ref v)] [(.ref v), (.ref v)])) _
    refine st108 _ ?_
    show Steps pg.tables ev below (T108.setTop (mkF mi 48 #[.val (.ref g), .val (.ref a), .val (.ref m), .val (.ref b), .val (.ref v)] [(.int (1 : Int32))])) _
    refine XS.ifNo X108.here hx rfl (hb hby d_method_5_code_48) rfl ((if0 _ _).trans (feq (by decide : ¬ ((1 : Int32) = (0 : Int32)))).1) ?_
    refine XS.iconst X108.here hx rfl (hb hby d_method_5_code_51) ?_
    refine XS.goto X108.here hx rfl (pc0 := 52) (pc' := 56) rfl (hb hby d_method_5_code_52) (by decide) (by decide) ?_
    show Steps pg.tables ev below (T108.setTop (mkF mi 56 #[.val (.ref g), .val (.ref a), .val (.ref m), .val (.ref b), .val (.ref v)] [(.int (1 : Int32))])) _
    exact retN X108 hx (t := .boolean) Bd.returns (by simp) (hb hby d_method_5_code_56) hr
  · show Q_same11 Z g a m b v hE n0 _ T108.heap _
    rw [ek108]
    exact ⟨rfl, N108, rfl⟩
theorem d_prog_9_method_4_code_0 : decode prog_9_method_4_code 0 = .ok (.iload_n 1, 1) := by decide +kernel
theorem d_prog_9_method_4_code_1 : decode prog_9_method_4_code 1 = .ok (.iconst 1, 1) := by decide +kernel
theorem d_prog_9_method_4_code_2 : decode prog_9_method_4_code 2 = .ok (.if_icmp .ne 31, 3) := by decide +kernel
theorem d_prog_9_method_4_code_33 : decode prog_9_method_4_code 33 = .ok (.aload_n 0, 1) := by decide +kernel
theorem d_prog_9_method_4_code_34 : decode prog_9_method_4_code 34 = .ok (.invokestatic 93, 3) := by decide +kernel
theorem d_prog_9_method_4_code_37 : decode prog_9_method_4_code 37 = .ok (.astore_n 2, 1) := by decide +kernel
theorem d_prog_9_method_4_code_38 : decode prog_9_method_4_code 38 = .ok (.aload_n 2, 1) := by decide +kernel
theorem d_prog_9_method_4_code_39 : decode prog_9_method_4_code 39 = .ok (.areturn, 1) := by decide +kernel
theorem pd_18 : parseMethodDescriptor "(Ljava/lang/Object;)Ljava/util/List;" = some ⟨[(.object "java/lang/Object")], some (.object "java/util/List")⟩ := by decide +kernel
theorem ef_fo00 (mi : MethodId) (g : Addr) (n : Int32) : entryFrame mi #[(.ref g), (.int n)] 3 = mkF mi 0 #[.val (.ref g), .val (.int n), .unset] [] := by first | (simp [entryFrame, mkF, argsToLocals, Value.category]; done) | rfl
def Q_fo00 (Z : State) (g : Addr) (n : Int32) (m : Addr) (tm : Addr) (cm0 : Int32) (b : Addr) (tb : Addr) (cb0 : Int32) (zc : Int32) (em : Addr) (hE : Heap) (n0 : Nat) (vv : Option Value) (hh : Heap) (LL : List Loc) : Prop := ∃ l_ : Addr, (vv = some (.ref l_)) ∧ (Fr n0 LL) ∧ (Keep hE hh []) ∧ (hE.size ≤ l_) ∧ (Exa Z hh l_ "java/util/ImmutableCollections$List12") ∧ (Fld Z hh l_ "java/util/ImmutableCollections$List12" "e0" "Ljava/lang/Object;" (.ref g)) ∧ (Fld Z hh l_ "java/util/ImmutableCollections$List12" "e1" "Ljava/lang/Object;" (.ref em))
set_option maxRecDepth 65536 in
set_option maxHeartbeats 40000000 in
theorem rm_fo00 (la : Launch) (Z : State) (a0 : Array Value) (hw : ∀ d ∈ tables_1, d.before a0 Z = true) (ws : List Jvm.Cond) (g : Addr) (n : Int32) (m : Addr) (tm : Addr) (cm0 : Int32) (b : Addr) (tb : Addr) (cb0 : Int32) (zc : Int32) (em : Addr) (hE : Heap) (n0 : Nat) (O : Old Z n0 hE) (P0_ : Exa Z hE g "com/example/beanloft/beanloft/naming/GlobalName") (P1_ : Fld Z hE g "com/example/beanloft/beanloft/naming/GlobalName" "appName" "Ljava/lang/String;" .null) (P2_ : Fld Z hE g "com/example/beanloft/beanloft/naming/GlobalName" "moduleName" "Ljava/lang/String;" (.ref m)) (P3_ : Fld Z hE g "com/example/beanloft/beanloft/naming/GlobalName" "beanName" "Ljava/lang/String;" (.ref b)) (P4_ : LStr Z hE m tm ([cm0] : List Int32)) (P5_ : LStr Z hE b tb ([cb0] : List Int32)) (D0_ : Sta Z Z.heap "java/lang/String" "COMPACT_STRINGS" "Z" (.int zc)) (D1_ : Sta Z Z.heap "java/util/ImmutableCollections" "EMPTY" "Ljava/lang/Object;" (.ref em)) (hzc : ¬ (zc = (0 : Int32))) (hn1 : ¬ (n = (1 : Int32))) :
    MetFree la mn35 (head1 (Jvm.Cond.code mn35 prog_9_method_4_code 3 (some (.object "java/util/List")) :: ws) ({ frames := 6, cells := 1, slots := 2, locals := 74 } : Room)) (fun aa UU => aa = #[(.ref g), (.int n)] ∧ Z.Warmed39 UU.vm ∧ UU.heap = hE ∧ CHv Z ELs UU.vm hE) (fun _ _ _ _ _ => True) (fun _ UU oo UV => ∃ vv LL, oo = .returned vv ∧ Q_fo00 Z g n m tm cm0 b tb cb0 zc em hE n0 vv UV.heap LL ∧ CHr Z ELs UU.vm UU.heap UV.vm UV.heap ∧ ReturnedEndW UU oo UV LL ({ frames := 6, cells := 1, slots := 2, locals := 74 } : Room).cells ({ frames := 6, cells := 1, slots := 2, locals := 74 } : Room).slots) := by
  refine MetFree.of_bodySF (plainFor_of_name pn_com_example_beanloft_beanloft_naming_GlobalName) hisR ?_
  intro pg ev sb mi gs below me cd s₁ Bd hml0 hPt hKt
  obtain ⟨rfl, hZ, hh, hH⟩ := hPt
  have hx := Bd.exec
  have hby := Bd.bytes
  have hml : cd.maxLocals = 3 := hml0
  have hown : sb.vm.findClass "com/example/beanloft/beanloft/naming/GlobalName" = some mi.cls := findClass_of_methodNamed Bd.named
  have hnm := (name_of_methodNamed Bd.named Bd.method).1
  have X0 : Stand pg la ev ({ frames := 6, cells := 1, slots := 2, locals := 74 } : Room) (sb.setVm sb.vm) mi #[(.ref g), (.int n)] below me cd s₁ [] 0 0 := Stand.of_body Bd
  have eE : s₁.heap = hE := by rw [← hh, Bd.state]; rfl
  have N0 := Fr.nil n0
  have pre0 : ∀ tt, Steps pg.tables ev below (s₁.setTop (mkF mi 0 #[.val (.ref g), .val (.int n), .unset] [])) tt → Steps pg.tables ev below (s₁.setTop (entryFrame mi #[(.ref g), (.int n)] 3)) tt := fun tt kk => castTop (ef_fo00 mi g n) kk
  have hS : sb.Since sb.vm 0 := (State.WarmedH.refl sb).since 0
  have hk : 0 ≤ hE.size := Nat.zero_le _
  have hEL := own_EW hw
  have C0 := CHr.refl hH
  obtain ⟨v101, _, ⟨T101, L101, k101, n101⟩, -, X101, ⟨Lc101, hQ101, l101, y101, z101⟩, st101⟩ := Jvm.LawKit.callS X0 hx (y := mn24) hown (mvT hZ (wd112 hw)) (mvT hZ (wd113 hw)) (mvT hZ (wd114 hw)) (mvT hZ (wd115 hw)) (by decide) (backOf (W := 0) (rm_lo1 la Z a0 hw [] g em hE n0 O D1_) hZ (wd115 hw) (wd114 hw) (by decide) (by decide)) (g := (mkF mi 34 #[.val (.ref g), .val (.int n), .unset] [(.ref g)])) rfl (by rw [hml]; rfl) (argsL := [(.ref g)]) (rest := []) (lenOf pd_18 rfl) rfl (by show 2 * 0 + _ ≤ _; exact Nat.le_of_eq rfl) (hb hby d_prog_9_method_4_code_34) (fun _ _ => ⟨rfl, eE, (by decide : 0 + 1 ≤ _), (by decide : 0 + 2 ≤ _)⟩)
  dsimp only [Pt.U, Pt.locs, Pt.cells, Pt.slots] at X101 l101 y101 z101 st101 hQ101
  subst l101 y101 z101
  obtain ⟨l__101, rfl, Nq101, Kq101, fr_l__101, r101_0, r101_1, r101_2⟩ := hQ101
  have N101 := Fr.app N0 Nq101
  have c102 := CHr.keep Kq101 sf0 C0.1
  have C103 := CHr.trans C0 c102
  obtain ⟨fs, hr, hrun, hended, hWe⟩ := X101.leaveW hS (show _ ≤ T101.heap.size from (Nat.le_trans hk Kq101.1)) (v := some (.ref l__101)) (fun hq => by rw [Bd.returns] at hq; cases hq)
  refine ⟨_, _, pre0 _ ?_, hrun, hended, _, _, rfl, ?_, ?_, hWe.1, hWe.2.1, hWe.2.2.1, hWe.2.2.2.mono (by decide) (by decide)⟩
  · show Steps pg.tables ev below (s₁.setTop (mkF mi 0 #[.val (.ref g), .val (.int n), .unset] [])) _
    refine XS.iloadN X0.here hx rfl (hb hby d_prog_9_method_4_code_0) rfl ?_
    refine XS.iconst X0.here hx rfl (hb hby d_prog_9_method_4_code_1) ?_
    refine XS.icmpYes X0.here hx rfl (pc0 := 2) (pc' := 33) rfl (hb hby d_prog_9_method_4_code_2) rfl (feq hn1).2 (by decide) (by decide) ?_
    refine XS.aloadN X0.here hx rfl (hb hby d_prog_9_method_4_code_33) rfl rfl ?_
    show Steps pg.tables ev below (s₁.setTop (mkF mi 34 #[.val (.ref g), .val (.int n), .unset] [(.ref g)])) _
    refine st101 _ ?_
    show Steps pg.tables ev below (T101.setTop (mkF mi 37 #[.val (.ref g), .val (.int n), .unset] [(.ref l__101)])) _
    refine XS.astoreN X101.here hx rfl (hb hby d_prog_9_method_4_code_37) rfl rfl (l' := #[.val (.ref g), .val (.int n), .val (.ref l__101)]) rfl ?_
    refine XS.aloadN X101.here hx rfl (hb hby d_prog_9_method_4_code_38) rfl rfl ?_
    show Steps pg.tables ev below (T101.setTop (mkF mi 39 #[.val (.ref g), .val (.int n), .val (.ref l__101)] [(.ref l__101)])) _
    jvm_step X101.here [X101.here.top, hx, (hb hby d_prog_9_method_4_code_39), X101.method', Bd.returns, Value.isRef, FieldType.isReference]
    first | (intro acts; rw [hr _ acts rfl rfl rfl]) | rw [hr _ _ rfl rfl rfl]
    exact Steps.refl _
  · show Q_fo00 Z g n m tm cm0 b tb cb0 zc em hE n0 _ T101.heap _
    exact ⟨l__101, rfl, N101, ((Keep.refl hE []).trans Kq101 all0), fr_l__101, r101_0, r101_1, r101_2⟩
  · show CHr Z ELs sb.vm sb.heap T101.vm T101.heap
    rw [hh]
    exact CHr.trans C103 (CHv.at X101 hZ hEL C103.1)
theorem d_prog_9_method_4_code_5 : decode prog_9_method_4_code 5 = .ok (.aload_n 0, 1) := by decide +kernel
theorem d_prog_9_method_4_code_6 : decode prog_9_method_4_code 6 = .ok (.new 20, 3) := by decide +kernel
theorem d_prog_9_method_4_code_9 : decode prog_9_method_4_code 9 = .ok (.dup, 1) := by decide +kernel
theorem d_prog_9_method_4_code_10 : decode prog_9_method_4_code 10 = .ok (.aload_n 0, 1) := by decide +kernel
theorem d_prog_9_method_4_code_11 : decode prog_9_method_4_code 11 = .ok (.getfield 31, 3) := by decide +kernel
theorem d_prog_9_method_4_code_14 : decode prog_9_method_4_code 14 = .ok (.aload_n 0, 1) := by decide +kernel
theorem d_prog_9_method_4_code_15 : decode prog_9_method_4_code 15 = .ok (.getfield 35, 3) := by decide +kernel
theorem d_prog_9_method_4_code_18 : decode prog_9_method_4_code 18 = .ok (.aload_n 0, 1) := by decide +kernel
theorem d_prog_9_method_4_code_19 : decode prog_9_method_4_code 19 = .ok (.getfield 37, 3) := by decide +kernel
theorem d_prog_9_method_4_code_22 : decode prog_9_method_4_code 22 = .ok (.aconst_null, 1) := by decide +kernel
theorem d_prog_9_method_4_code_23 : decode prog_9_method_4_code 23 = .ok (.invokespecial 85, 3) := by decide +kernel
theorem d_prog_9_method_4_code_26 : decode prog_9_method_4_code 26 = .ok (.invokestatic 87, 3) := by decide +kernel
theorem d_prog_9_method_4_code_29 : decode prog_9_method_4_code 29 = .ok (.astore_n 2, 1) := by decide +kernel
theorem d_prog_9_method_4_code_30 : decode prog_9_method_4_code 30 = .ok (.goto 8, 3) := by decide +kernel
theorem pd_19 : parseMethodDescriptor "(Ljava/lang/Object;Ljava/lang/Object;)Ljava/util/List;" = some ⟨[(.object "java/lang/Object"), (.object "java/lang/Object")], some (.object "java/util/List")⟩ := by decide +kernel
theorem ef_fo01 (mi : MethodId) (g : Addr) (n : Int32) : entryFrame mi #[(.ref g), (.int n)] 3 = mkF mi 0 #[.val (.ref g), .val (.int n), .unset] [] := by first | (simp [entryFrame, mkF, argsToLocals, Value.category]; done) | rfl
def Q_fo01 (Z : State) (g : Addr) (n : Int32) (m : Addr) (tm : Addr) (cm0 : Int32) (b : Addr) (tb : Addr) (cb0 : Int32) (zc : Int32) (em : Addr) (hE : Heap) (n0 : Nat) (vv : Option Value) (hh : Heap) (LL : List Loc) : Prop := ∃ l_ : Addr, ∃ g2 : Addr, (vv = some (.ref l_)) ∧ (Fr n0 LL) ∧ (Keep hE hh []) ∧ (hE.size ≤ l_) ∧ (hE.size ≤ g2) ∧ (Exa Z hh l_ "java/util/ImmutableCollections$List12") ∧ (Fld Z hh l_ "java/util/ImmutableCollections$List12" "e0" "Ljava/lang/Object;" (.ref g)) ∧ (Fld Z hh l_ "java/util/ImmutableCollections$List12" "e1" "Ljava/lang/Object;" (.ref g2)) ∧ (Exa Z hh g2 "com/example/beanloft/beanloft/naming/GlobalName") ∧ (Fld Z hh g2 "com/example/beanloft/beanloft/naming/GlobalName" "appName" "Ljava/lang/String;" .null) ∧ (Fld Z hh g2 "com/example/beanloft/beanloft/naming/GlobalName" "moduleName" "Ljava/lang/String;" (.ref m)) ∧ (Fld Z hh g2 "com/example/beanloft/beanloft/naming/GlobalName" "beanName" "Ljava/lang/String;" (.ref b)) ∧ (Fld Z hh g2 "com/example/beanloft/beanloft/naming/GlobalName" "viewName" "Ljava/lang/String;" .null)
set_option maxRecDepth 65536 in
set_option maxHeartbeats 40000000 in
theorem rm_fo01 (la : Launch) (Z : State) (a0 : Array Value) (hw : ∀ d ∈ tables_1, d.before a0 Z = true) (ws : List Jvm.Cond) (g : Addr) (n : Int32) (m : Addr) (tm : Addr) (cm0 : Int32) (b : Addr) (tb : Addr) (cb0 : Int32) (zc : Int32) (em : Addr) (hE : Heap) (n0 : Nat) (O : Old Z n0 hE) (P0_ : Exa Z hE g "com/example/beanloft/beanloft/naming/GlobalName") (P1_ : Fld Z hE g "com/example/beanloft/beanloft/naming/GlobalName" "appName" "Ljava/lang/String;" .null) (P2_ : Fld Z hE g "com/example/beanloft/beanloft/naming/GlobalName" "moduleName" "Ljava/lang/String;" (.ref m)) (P3_ : Fld Z hE g "com/example/beanloft/beanloft/naming/GlobalName" "beanName" "Ljava/lang/String;" (.ref b)) (P4_ : LStr Z hE m tm ([cm0] : List Int32)) (P5_ : LStr Z hE b tb ([cb0] : List Int32)) (D0_ : Sta Z Z.heap "java/lang/String" "COMPACT_STRINGS" "Z" (.int zc)) (D1_ : Sta Z Z.heap "java/util/ImmutableCollections" "EMPTY" "Ljava/lang/Object;" (.ref em)) (h47_cm0 : ¬ ((cm0.toInt8.toInt32) = (47 : Int32))) (h33_cm0 : ¬ ((cm0.toInt8.toInt32) = (33 : Int32))) (h47_cb0 : ¬ ((cb0.toInt8.toInt32) = (47 : Int32))) (h33_cb0 : ¬ ((cb0.toInt8.toInt32) = (33 : Int32))) (hzc : ¬ (zc = (0 : Int32))) (hn1 : n = (1 : Int32)) :
    MetFree la mn35 (head1 (Jvm.Cond.code mn35 prog_9_method_4_code 3 (some (.object "java/util/List")) :: ws) ({ frames := 6, cells := 18, slots := 298, locals := 95 } : Room)) (fun aa UU => aa = #[(.ref g), (.int n)] ∧ Z.Warmed39 UU.vm ∧ UU.heap = hE ∧ CHv Z ELs UU.vm hE) (fun _ _ _ _ _ => True) (fun _ UU oo UV => ∃ vv LL, oo = .returned vv ∧ Q_fo01 Z g n m tm cm0 b tb cb0 zc em hE n0 vv UV.heap LL ∧ CHr Z ELs UU.vm UU.heap UV.vm UV.heap ∧ ReturnedEndW UU oo UV LL ({ frames := 6, cells := 18, slots := 298, locals := 95 } : Room).cells ({ frames := 6, cells := 18, slots := 298, locals := 95 } : Room).slots) := by
  refine MetFree.of_bodySF (plainFor_of_name pn_com_example_beanloft_beanloft_naming_GlobalName) hisR ?_
  intro pg ev sb mi gs below me cd s₁ Bd hml0 hPt hKt
  obtain ⟨rfl, hZ, hh, hH⟩ := hPt
  have hx := Bd.exec
  have hby := Bd.bytes
  have hml : cd.maxLocals = 3 := hml0
  have hown : sb.vm.findClass "com/example/beanloft/beanloft/naming/GlobalName" = some mi.cls := findClass_of_methodNamed Bd.named
  have hnm := (name_of_methodNamed Bd.named Bd.method).1
  have X0 : Stand pg la ev ({ frames := 6, cells := 18, slots := 298, locals := 95 } : Room) (sb.setVm sb.vm) mi #[(.ref g), (.int n)] below me cd s₁ [] 0 0 := Stand.of_body Bd
  have eE : s₁.heap = hE := by rw [← hh, Bd.state]; rfl
  have N0 := Fr.nil n0
  have pre0 : ∀ tt, Steps pg.tables ev below (s₁.setTop (mkF mi 0 #[.val (.ref g), .val (.int n), .unset] [])) tt → Steps pg.tables ev below (s₁.setTop (entryFrame mi #[(.ref g), (.int n)] 3)) tt := fun tt kk => castTop (ef_fo01 mi g n) kk
  have hS : sb.Since sb.vm 0 := (State.WarmedH.refl sb).since 0
  have hk : 0 ≤ hE.size := Nat.zero_le _
  have hEL := own_EW hw
  have C0 := CHr.refl hH
  obtain ⟨T101, h101, X101, e101, E101, A101, D101, -, st101⟩ := newO X0 hx hZ hown (wd200 hw) (wd31 hw) (wd32 hw) eE (g := (mkF mi 6 #[.val (.ref g), .val (.int n), .unset] [(.ref g)])) rfl (hb hby d_prog_9_method_4_code_6) (by decide) (by decide)
  obtain ⟨b101, q101⟩ : ∃ z, z = hE.size := ⟨_, rfl⟩
  rw [← q101] at A101 D101 st101
  have c102 := CHr.ext E101 C0.1
  have C103 := CHr.trans C0 c102
  have f104 : Fld Z h101 b101 "com/example/beanloft/beanloft/naming/GlobalName" "appName" "Ljava/lang/String;" .null := D101 (Or.inr (wd100 hw)) (ty := (.object "java/lang/String")) (by decide)
  have f105 : Fld Z h101 b101 "com/example/beanloft/beanloft/naming/GlobalName" "moduleName" "Ljava/lang/String;" .null := D101 (Or.inr (wd102 hw)) (ty := (.object "java/lang/String")) (by decide)
  have f106 : Fld Z h101 b101 "com/example/beanloft/beanloft/naming/GlobalName" "beanName" "Ljava/lang/String;" .null := D101 (Or.inr (wd104 hw)) (ty := (.object "java/lang/String")) (by decide)
  have f107 : Fld Z h101 b101 "com/example/beanloft/beanloft/naming/GlobalName" "viewName" "Ljava/lang/String;" .null := D101 (Or.inr (wd106 hw)) (ty := (.object "java/lang/String")) (by decide)
  have f108 : Fld Z h101 g "com/example/beanloft/beanloft/naming/GlobalName" "appName" "Ljava/lang/String;" .null := (P1_.ext E101)
  obtain ⟨T109, X109, e109, st109⟩ := getF X101 hx hZ hown (host := "") (Or.inl (wd99 hw)) Via.refl e101 f108 (g := (mkF mi 11 #[.val (.ref g), .val (.int n), .unset] [(.ref g), (.ref b101), (.ref b101), (.ref g)])) rfl rfl (hb hby d_prog_9_method_4_code_11)
  have f110 : Fld Z h101 g "com/example/beanloft/beanloft/naming/GlobalName" "moduleName" "Ljava/lang/String;" (.ref m) := (P2_.ext E101)
  obtain ⟨T111, X111, e111, st111⟩ := getF X109 hx hZ hown (host := "") (Or.inl (wd101 hw)) Via.refl e109 f110 (g := (mkF mi 15 #[.val (.ref g), .val (.int n), .unset] [(.ref g), .null, (.ref b101), (.ref b101), (.ref g)])) rfl rfl (hb hby d_prog_9_method_4_code_15)
  have f112 : Fld Z h101 g "com/example/beanloft/beanloft/naming/GlobalName" "beanName" "Ljava/lang/String;" (.ref b) := (P3_.ext E101)
  obtain ⟨T113, X113, e113, st113⟩ := getF X111 hx hZ hown (host := "") (Or.inl (wd103 hw)) Via.refl e111 f112 (g := (mkF mi 19 #[.val (.ref g), .val (.int n), .unset] [(.ref g), (.ref m), .null, (.ref b101), (.ref b101), (.ref g)])) rfl rfl (hb hby d_prog_9_method_4_code_19)
  have O114 : Old Z n0 h101 := (O.ext E101)
  have f115 : LStr Z h101 m tm ([cm0] : List Int32) := (P4_.ext E101)
  have f116 : LStr Z h101 b tb ([cb0] : List Int32) := (P5_.ext E101)
  have g_b101 : n0 ≤ b101 := Nat.le_trans (Nat.le_trans (Nat.le_of_eq O.1.symm) O.2.1) (Nat.le_of_eq q101.symm)
  have ne_m_b101 : m ≠ b101 := Nat.ne_of_lt (Nat.lt_of_lt_of_le P4_.lt (Nat.le_trans (Nat.le_refl _) (Nat.le_of_eq q101.symm)))
  have ne_tm_b101 : tm ≠ b101 := Nat.ne_of_lt (Nat.lt_of_lt_of_le P4_.ltt (Nat.le_trans (Nat.le_refl _) (Nat.le_of_eq q101.symm)))
  have ne_b_b101 : b ≠ b101 := Nat.ne_of_lt (Nat.lt_of_lt_of_le P5_.lt (Nat.le_trans (Nat.le_refl _) (Nat.le_of_eq q101.symm)))
  have ne_tb_b101 : tb ≠ b101 := Nat.ne_of_lt (Nat.lt_of_lt_of_le P5_.ltt (Nat.le_trans (Nat.le_refl _) (Nat.le_of_eq q101.symm)))
  have pre118 : ∀ tt, Steps pg.tables ev below (T113.setTop (mkF mi 23 #[.val (.ref g), .val (.int n), .unset] [.null, (.ref b), (.ref m), .null, (.ref b101), (.ref b101), (.ref g)])) tt → Steps pg.tables ev below (s₁.setTop (entryFrame mi #[(.ref g), (.int n)] 3)) tt := fun tt kk => pre0 _ (by
    show Steps pg.tables ev below (s₁.setTop (mkF mi 0 #[.val (.ref g), .val (.int n), .unset] [])) _
    refine XS.iloadN X0.here hx rfl (hb hby d_prog_9_method_4_code_0) rfl ?_
    refine XS.iconst X0.here hx rfl (hb hby d_prog_9_method_4_code_1) ?_
    refine XS.icmpNo X0.here hx rfl (hb hby d_prog_9_method_4_code_2) rfl (teq hn1).2 ?_
    refine XS.aloadN X0.here hx rfl (hb hby d_prog_9_method_4_code_5) rfl rfl ?_
    show Steps pg.tables ev below (s₁.setTop (mkF mi 6 #[.val (.ref g), .val (.int n), .unset] [(.ref g)])) _
    refine st101 _ ?_
    show Steps pg.tables ev below (T101.setTop (mkF mi 9 #[.val (.ref g), .val (.int n), .unset] [(.ref b101), (.ref g)])) _
    refine XS.dup X101.here hx rfl (hb hby d_prog_9_method_4_code_9) rfl rfl ?_
    refine XS.aloadN X101.here hx rfl (hb hby d_prog_9_method_4_code_10) rfl rfl ?_
    show Steps pg.tables ev below (T101.setTop (mkF mi 11 #[.val (.ref g), .val (.int n), .unset] [(.ref g), (.ref b101), (.ref b101), (.ref g)])) _
    refine st109 _ ?_
    show Steps pg.tables ev below (T109.setTop (mkF mi 14 #[.val (.ref g), .val (.int n), .unset] [.null, (.ref b101), (.ref b101), (.ref g)])) _
    refine XS.aloadN X109.here hx rfl (hb hby d_prog_9_method_4_code_14) rfl rfl ?_
    show Steps pg.tables ev below (T109.setTop (mkF mi 15 #[.val (.ref g), .val (.int n), .unset] [(.ref g), .null, (.ref b101), (.ref b101), (.ref g)])) _
    refine st111 _ ?_
    show Steps pg.tables ev below (T111.setTop (mkF mi 18 #[.val (.ref g), .val (.int n), .unset] [(.ref m), .null, (.ref b101), (.ref b101), (.ref g)])) _
    refine XS.aloadN X111.here hx rfl (hb hby d_prog_9_method_4_code_18) rfl rfl ?_
    show Steps pg.tables ev below (T111.setTop (mkF mi 19 #[.val (.ref g), .val (.int n), .unset] [(.ref g), (.ref m), .null, (.ref b101), (.ref b101), (.ref g)])) _
    refine st113 _ ?_
    show Steps pg.tables ev below (T113.setTop (mkF mi 22 #[.val (.ref g), .val (.int n), .unset] [(.ref b), (.ref m), .null, (.ref b101), (.ref b101), (.ref g)])) _
    refine XS.aconstNull X113.here hx rfl (hb hby d_prog_9_method_4_code_22) ?_
    exact kk)
  obtain ⟨v117, _, ⟨T117, L117, k117, n117⟩, -, X117, s117, gr117, ⟨Lc117, hQ117, l117, y117, z117, c117⟩, st117⟩ := X113.specialBackS hx (y := mn17) rfl hown (mvT hZ (wd201 hw)) (mvT hZ (wd34 hw)) (mvT hZ (wd35 hw)) (by decide) (backOfSH (W := 2) (rm_gin0110 la Z a0 hw [] b101 m tm cm0 b tb cb0 zc h101 n0 O114 A101 f104 f105 f106 f107 f115 f116 D0_ g_b101 ne_m_b101 ne_tm_b101 ne_b_b101 ne_tb_b101 (h47_cm0 : ¬ ((cm0.toInt8.toInt32) = (47 : Int32))) (h33_cm0 : ¬ ((cm0.toInt8.toInt32) = (33 : Int32))) (h47_cb0 : ¬ ((cb0.toInt8.toInt32) = (47 : Int32))) (h33_cb0 : ¬ ((cb0.toInt8.toInt32) = (33 : Int32))) (hzc : ¬ (zc = (0 : Int32)))) hZ (wd35 hw) (wd32 hw) (by decide) (by decide) hEL C103.1) (g := (mkF mi 23 #[.val (.ref g), .val (.int n), .unset] [.null, (.ref b), (.ref m), .null, (.ref b101), (.ref b101), (.ref g)])) rfl (by rw [hml]; rfl) (Steps.refl _) (a := b101) (argsL := [.null, (.ref m), (.ref b), .null]) (rest := [(.ref b101), (.ref g)]) (lenOf pd_12 rfl) rfl (by show 2 * 0 + _ ≤ _; exact Nat.le_of_eq rfl) (hb hby d_prog_9_method_4_code_23) (fun _ _ => ⟨rfl, e113, (by decide : 1 + 16 ≤ _), (by decide : 4 + 292 ≤ _)⟩)
  dsimp only [Pt.U, Pt.locs, Pt.cells, Pt.slots] at X117 s117 gr117 l117 y117 z117 c117 st117 hQ117
  subst l117 y117 z117
  obtain ⟨X117, hS, hZ, hown⟩ := rebS hS (show _ ≤ T113.heap.size by rw [e113]; exact (Nat.le_trans hk E101.1)) X117 s117 gr117 hZ hown
  have hk : T117.heap.size ≤ T117.heap.size := Nat.le_refl _
  obtain ⟨rfl, Nq117, Kq117, r117_0, r117_1, r117_2, r117_3, r117_4⟩ := hQ117
  have N117 := Fr.app N0 Nq117
  have C119 := CHr.trans C103 c117
  have O120 : Old Z n0 T117.heap := (O114.keep Kq117 (allS g_b101 all0))
  obtain ⟨v121, _, ⟨T121, L121, k121, n121⟩, -, X121, ⟨Lc121, hQ121, l121, y121, z121⟩, st121⟩ := Jvm.LawKit.callS X117 hx (y := mn25) hown (mvT hZ (wd202 hw)) (mvT hZ (wd203 hw)) (mvT hZ (wd114 hw)) (mvT hZ (wd204 hw)) (by decide) (backOf (W := 0) (rm_lo2 la Z a0 hw [] g b101 T117.heap n0 O120) hZ (wd204 hw) (wd114 hw) (by decide) (by decide)) (g := (mkF mi 26 #[.val (.ref g), .val (.int n), .unset] [(.ref b101), (.ref g)])) rfl (by rw [hml]; rfl) (argsL := [(.ref g), (.ref b101)]) (rest := []) (lenOf pd_19 rfl) rfl (by show 2 * 0 + _ ≤ _; exact Nat.le_of_eq rfl) (hb hby d_prog_9_method_4_code_26) (fun _ _ => ⟨rfl, rfl, (by decide : 17 + 1 ≤ _), (by decide : 296 + 2 ≤ _)⟩)
  dsimp only [Pt.U, Pt.locs, Pt.cells, Pt.slots] at X121 l121 y121 z121 st121 hQ121
  subst l121 y121 z121
  obtain ⟨l__121, rfl, Nq121, Kq121, fr_l__121, r121_0, r121_1, r121_2⟩ := hQ121
  have N121 := Fr.app N117 Nq121
  have c122 := CHr.keep Kq121 sf0 C119.1
  have C123 := CHr.trans C119 c122
  have f124 : Exa Z T121.heap b101 "com/example/beanloft/beanloft/naming/GlobalName" := (r117_0.keep Kq121)
  have f125 : Fld Z T121.heap b101 "com/example/beanloft/beanloft/naming/GlobalName" "appName" "Ljava/lang/String;" .null := (r117_1.keep Kq121 nin0)
  have f126 : Fld Z T121.heap b101 "com/example/beanloft/beanloft/naming/GlobalName" "moduleName" "Ljava/lang/String;" (.ref m) := (r117_2.keep Kq121 nin0)
  have f127 : Fld Z T121.heap b101 "com/example/beanloft/beanloft/naming/GlobalName" "beanName" "Ljava/lang/String;" (.ref b) := (r117_3.keep Kq121 nin0)
  have f128 : Fld Z T121.heap b101 "com/example/beanloft/beanloft/naming/GlobalName" "viewName" "Ljava/lang/String;" .null := (r117_4.keep Kq121 nin0)
  obtain ⟨fs, hr, hrun, hended, hWe⟩ := X121.leaveW hS (show _ ≤ T121.heap.size from (Nat.le_trans hk Kq121.1)) (v := some (.ref l__121)) (fun hq => by rw [Bd.returns] at hq; cases hq)
  refine ⟨_, _, pre118 _ ?_, hrun, hended, _, _, rfl, ?_, ?_, hWe.1, hWe.2.1, hWe.2.2.1, hWe.2.2.2.mono (by decide) (by decide)⟩
  · show Steps pg.tables ev below (T113.setTop (mkF mi 23 #[.val (.ref g), .val (.int n), .unset] [.null, (.ref b), (.ref m), .null, (.ref b101), (.ref b101), (.ref g)])) _
    refine st117.trans ?_
    show Steps pg.tables ev below (T117.setTop (mkF mi 26 #[.val (.ref g), .val (.int n), .unset] [(.ref b101), (.ref g)])) _
    refine st121 _ ?_
    show Steps pg.tables ev below (T121.setTop (mkF mi 29 #[.val (.ref g), .val (.int n), .unset] [(.ref l__121)])) _
    refine XS.astoreN X121.here hx rfl (hb hby d_prog_9_method_4_code_29) rfl rfl (l' := #[.val (.ref g), .val (.int n), .val (.ref l__121)]) rfl ?_
    refine XS.goto X121.here hx rfl (pc0 := 30) (pc' := 38) rfl (hb hby d_prog_9_method_4_code_30) (by decide) (by decide) ?_
    refine XS.aloadN X121.here hx rfl (hb hby d_prog_9_method_4_code_38) rfl rfl ?_
    show Steps pg.tables ev below (T121.setTop (mkF mi 39 #[.val (.ref g), .val (.int n), .val (.ref l__121)] [(.ref l__121)])) _
    jvm_step X121.here [X121.here.top, hx, (hb hby d_prog_9_method_4_code_39), X121.method', Bd.returns, Value.isRef, FieldType.isReference]
    first | (intro acts; rw [hr _ acts rfl rfl rfl]) | rw [hr _ _ rfl rfl rfl]
    exact Steps.refl _
  · show Q_fo01 Z g n m tm cm0 b tb cb0 zc em hE n0 _ T121.heap _
    exact ⟨l__121, b101, rfl, N121, ((((Keep.refl hE []).ext E101).trans Kq117 (allS (Or.inr (Nat.le_of_eq q101.symm)) all0)).trans Kq121 all0), (Nat.le_trans (Nat.le_trans E101.1 Kq117.1) fr_l__121), (Nat.le_of_eq q101.symm), r121_0, r121_1, r121_2, f124, f125, f126, f127, f128⟩
  · show CHr Z ELs sb.vm sb.heap T121.vm T121.heap
    rw [hh]
    exact CHr.trans C123 (CHv.at X121 hZ hEL C123.1)
theorem ef_fo10 (mi : MethodId) (g : Addr) (n : Int32) : entryFrame mi #[(.ref g), (.int n)] 3 = mkF mi 0 #[.val (.ref g), .val (.int n), .unset] [] := by first | (simp [entryFrame, mkF, argsToLocals, Value.category]; done) | rfl
def Q_fo10 (Z : State) (g : Addr) (n : Int32) (a : Addr) (ta : Addr) (ca0 : Int32) (m : Addr) (tm : Addr) (cm0 : Int32) (b : Addr) (tb : Addr) (cb0 : Int32) (zc : Int32) (em : Addr) (hE : Heap) (n0 : Nat) (vv : Option Value) (hh : Heap) (LL : List Loc) : Prop := ∃ l_ : Addr, (vv = some (.ref l_)) ∧ (Fr n0 LL) ∧ (Keep hE hh []) ∧ (hE.size ≤ l_) ∧ (Exa Z hh l_ "java/util/ImmutableCollections$List12") ∧ (Fld Z hh l_ "java/util/ImmutableCollections$List12" "e0" "Ljava/lang/Object;" (.ref g)) ∧ (Fld Z hh l_ "java/util/ImmutableCollections$List12" "e1" "Ljava/lang/Object;" (.ref em))
set_option maxRecDepth 65536 in
set_option maxHeartbeats 40000000 in
theorem rm_fo10 (la : Launch) (Z : State) (a0 : Array Value) (hw : ∀ d ∈ tables_1, d.before a0 Z = true) (ws : List Jvm.Cond) (g : Addr) (n : Int32) (a : Addr) (ta : Addr) (ca0 : Int32) (m : Addr) (tm : Addr) (cm0 : Int32) (b : Addr) (tb : Addr) (cb0 : Int32) (zc : Int32) (em : Addr) (hE : Heap) (n0 : Nat) (O : Old Z n0 hE) (P0_ : Exa Z hE g "com/example/beanloft/beanloft/naming/GlobalName") (P1_ : Fld Z hE g "com/example/beanloft/beanloft/naming/GlobalName" "appName" "Ljava/lang/String;" (.ref a)) (P2_ : Fld Z hE g "com/example/beanloft/beanloft/naming/GlobalName" "moduleName" "Ljava/lang/String;" (.ref m)) (P3_ : Fld Z hE g "com/example/beanloft/beanloft/naming/GlobalName" "beanName" "Ljava/lang/String;" (.ref b)) (P4_ : LStr Z hE a ta ([ca0] : List Int32)) (P5_ : LStr Z hE m tm ([cm0] : List Int32)) (P6_ : LStr Z hE b tb ([cb0] : List Int32)) (D0_ : Sta Z Z.heap "java/lang/String" "COMPACT_STRINGS" "Z" (.int zc)) (D1_ : Sta Z Z.heap "java/util/ImmutableCollections" "EMPTY" "Ljava/lang/Object;" (.ref em)) (hzc : ¬ (zc = (0 : Int32))) (hn1 : ¬ (n = (1 : Int32))) :
    MetFree la mn35 (head1 (Jvm.Cond.code mn35 prog_9_method_4_code 3 (some (.object "java/util/List")) :: ws) ({ frames := 6, cells := 1, slots := 2, locals := 74 } : Room)) (fun aa UU => aa = #[(.ref g), (.int n)] ∧ Z.Warmed39 UU.vm ∧ UU.heap = hE ∧ CHv Z ELs UU.vm hE) (fun _ _ _ _ _ => True) (fun _ UU oo UV => ∃ vv LL, oo = .returned vv ∧ Q_fo10 Z g n a ta ca0 m tm cm0 b tb cb0 zc em hE n0 vv UV.heap LL ∧ CHr Z ELs UU.vm UU.heap UV.vm UV.heap ∧ ReturnedEndW UU oo UV LL ({ frames := 6, cells := 1, slots := 2, locals := 74 } : Room).cells ({ frames := 6, cells := 1, slots := 2, locals := 74 } : Room).slots) := by
  refine MetFree.of_bodySF (plainFor_of_name pn_com_example_beanloft_beanloft_naming_GlobalName) hisR ?_
  intro pg ev sb mi gs below me cd s₁ Bd hml0 hPt hKt
  obtain ⟨rfl, hZ, hh, hH⟩ := hPt
  have hx := Bd.exec
  have hby := Bd.bytes
  have hml : cd.maxLocals = 3 := hml0
  have hown : sb.vm.findClass "com/example/beanloft/beanloft/naming/GlobalName" = some mi.cls := findClass_of_methodNamed Bd.named
  have hnm := (name_of_methodNamed Bd.named Bd.method).1
  have X0 : Stand pg la ev ({ frames := 6, cells := 1, slots := 2, locals := 74 } : Room) (sb.setVm sb.vm) mi #[(.ref g), (.int n)] below me cd s₁ [] 0 0 := Stand.of_body Bd
  have eE : s₁.heap = hE := by rw [← hh, Bd.state]; rfl
  have N0 := Fr.nil n0
  have pre0 : ∀ tt, Steps pg.tables ev below (s₁.setTop (mkF mi 0 #[.val (.ref g), .val (.int n), .unset] [])) tt → Steps pg.tables ev below (s₁.setTop (entryFrame mi #[(.ref g), (.int n)] 3)) tt := fun tt kk => castTop (ef_fo10 mi g n) kk
  have hS : sb.Since sb.vm 0 := (State.WarmedH.refl sb).since 0
  have hk : 0 ≤ hE.size := Nat.zero_le _
  have hEL := own_EW hw
  have C0 := CHr.refl hH
  obtain ⟨v101, _, ⟨T101, L101, k101, n101⟩, -, X101, ⟨Lc101, hQ101, l101, y101, z101⟩, st101⟩ := Jvm.LawKit.callS X0 hx (y := mn24) hown (mvT hZ (wd112 hw)) (mvT hZ (wd113 hw)) (mvT hZ (wd114 hw)) (mvT hZ (wd115 hw)) (by decide) (backOf (W := 0) (rm_lo1 la Z a0 hw [] g em hE n0 O D1_) hZ (wd115 hw) (wd114 hw) (by decide) (by decide)) (g := (mkF mi 34 #[.val (.ref g), .val (.int n), .unset] [(.ref g)])) rfl (by rw [hml]; rfl) (argsL := [(.ref g)]) (rest := []) (lenOf pd_18 rfl) rfl (by show 2 * 0 + _ ≤ _; exact Nat.le_of_eq rfl) (hb hby d_prog_9_method_4_code_34) (fun _ _ => ⟨rfl, eE, (by decide : 0 + 1 ≤ _), (by decide : 0 + 2 ≤ _)⟩)
  dsimp only [Pt.U, Pt.locs, Pt.cells, Pt.slots] at X101 l101 y101 z101 st101 hQ101
  subst l101 y101 z101
  obtain ⟨l__101, rfl, Nq101, Kq101, fr_l__101, r101_0, r101_1, r101_2⟩ := hQ101
  have N101 := Fr.app N0 Nq101
  have c102 := CHr.keep Kq101 sf0 C0.1
  have C103 := CHr.trans C0 c102
  obtain ⟨fs, hr, hrun, hended, hWe⟩ := X101.leaveW hS (show _ ≤ T101.heap.size from (Nat.le_trans hk Kq101.1)) (v := some (.ref l__101)) (fun hq => by rw [Bd.returns] at hq; cases hq)
  refine ⟨_, _, pre0 _ ?_, hrun, hended, _, _, rfl, ?_, ?_, hWe.1, hWe.2.1, hWe.2.2.1, hWe.2.2.2.mono (by decide) (by decide)⟩
  · show Steps pg.tables ev below (s₁.setTop (mkF mi 0 #[.val (.ref g), .val (.int n), .unset] [])) _
    refine XS.iloadN X0.here hx rfl (hb hby d_prog_9_method_4_code_0) rfl ?_
    refine XS.iconst X0.here hx rfl (hb hby d_prog_9_method_4_code_1) ?_
    refine XS.icmpYes X0.here hx rfl (pc0 := 2) (pc' := 33) rfl (hb hby d_prog_9_method_4_code_2) rfl (feq hn1).2 (by decide) (by decide) ?_
    refine XS.aloadN X0.here hx rfl (hb hby d_prog_9_method_4_code_33) rfl rfl ?_
    show Steps pg.tables ev below (s₁.setTop (mkF mi 34 #[.val (.ref g), .val (.int n), .unset] [(.ref g)])) _
    refine st101 _ ?_
    show Steps pg.tables ev below (T101.setTop (mkF mi 37 #[.val (.ref g), .val (.int n), .unset] [(.ref l__101)])) _
    refine XS.astoreN X101.here hx rfl (hb hby d_prog_9_method_4_code_37) rfl rfl (l' := #[.val (.ref g), .val (.int n), .val (.ref l__101)]) rfl ?_
    refine XS.aloadN X101.here hx rfl (hb hby d_prog_9_method_4_code_38) rfl rfl ?_
    show Steps pg.tables ev below (T101.setTop (mkF mi 39 #[.val (.ref g), .val (.int n), .val (.ref l__101)] [(.ref l__101)])) _
    jvm_step X101.here [X101.here.top, hx, (hb hby d_prog_9_method_4_code_39), X101.method', Bd.returns, Value.isRef, FieldType.isReference]
    first | (intro acts; rw [hr _ acts rfl rfl rfl]) | rw [hr _ _ rfl rfl rfl]
    exact Steps.refl _
  · show Q_fo10 Z g n a ta ca0 m tm cm0 b tb cb0 zc em hE n0 _ T101.heap _
    exact ⟨l__101, rfl, N101, ((Keep.refl hE []).trans Kq101 all0), fr_l__101, r101_0, r101_1, r101_2⟩
  · show CHr Z ELs sb.vm sb.heap T101.vm T101.heap
    rw [hh]
    exact CHr.trans C103 (CHv.at X101 hZ hEL C103.1)
theorem ef_fo11 (mi : MethodId) (g : Addr) (n : Int32) : entryFrame mi #[(.ref g), (.int n)] 3 = mkF mi 0 #[.val (.ref g), .val (.int n), .unset] [] := by first | (simp [entryFrame, mkF, argsToLocals, Value.category]; done) | rfl
def Q_fo11 (Z : State) (g : Addr) (n : Int32) (a : Addr) (ta : Addr) (ca0 : Int32) (m : Addr) (tm : Addr) (cm0 : Int32) (b : Addr) (tb : Addr) (cb0 : Int32) (zc : Int32) (em : Addr) (hE : Heap) (n0 : Nat) (vv : Option Value) (hh : Heap) (LL : List Loc) : Prop := ∃ l_ : Addr, ∃ g2 : Addr, (vv = some (.ref l_)) ∧ (Fr n0 LL) ∧ (Keep hE hh []) ∧ (hE.size ≤ l_) ∧ (hE.size ≤ g2) ∧ (Exa Z hh l_ "java/util/ImmutableCollections$List12") ∧ (Fld Z hh l_ "java/util/ImmutableCollections$List12" "e0" "Ljava/lang/Object;" (.ref g)) ∧ (Fld Z hh l_ "java/util/ImmutableCollections$List12" "e1" "Ljava/lang/Object;" (.ref g2)) ∧ (Exa Z hh g2 "com/example/beanloft/beanloft/naming/GlobalName") ∧ (Fld Z hh g2 "com/example/beanloft/beanloft/naming/GlobalName" "appName" "Ljava/lang/String;" (.ref a)) ∧ (Fld Z hh g2 "com/example/beanloft/beanloft/naming/GlobalName" "moduleName" "Ljava/lang/String;" (.ref m)) ∧ (Fld Z hh g2 "com/example/beanloft/beanloft/naming/GlobalName" "beanName" "Ljava/lang/String;" (.ref b)) ∧ (Fld Z hh g2 "com/example/beanloft/beanloft/naming/GlobalName" "viewName" "Ljava/lang/String;" .null)
set_option maxRecDepth 65536 in
set_option maxHeartbeats 40000000 in
theorem rm_fo11 (la : Launch) (Z : State) (a0 : Array Value) (hw : ∀ d ∈ tables_1, d.before a0 Z = true) (ws : List Jvm.Cond) (g : Addr) (n : Int32) (a : Addr) (ta : Addr) (ca0 : Int32) (m : Addr) (tm : Addr) (cm0 : Int32) (b : Addr) (tb : Addr) (cb0 : Int32) (zc : Int32) (em : Addr) (hE : Heap) (n0 : Nat) (O : Old Z n0 hE) (P0_ : Exa Z hE g "com/example/beanloft/beanloft/naming/GlobalName") (P1_ : Fld Z hE g "com/example/beanloft/beanloft/naming/GlobalName" "appName" "Ljava/lang/String;" (.ref a)) (P2_ : Fld Z hE g "com/example/beanloft/beanloft/naming/GlobalName" "moduleName" "Ljava/lang/String;" (.ref m)) (P3_ : Fld Z hE g "com/example/beanloft/beanloft/naming/GlobalName" "beanName" "Ljava/lang/String;" (.ref b)) (P4_ : LStr Z hE a ta ([ca0] : List Int32)) (P5_ : LStr Z hE m tm ([cm0] : List Int32)) (P6_ : LStr Z hE b tb ([cb0] : List Int32)) (D0_ : Sta Z Z.heap "java/lang/String" "COMPACT_STRINGS" "Z" (.int zc)) (D1_ : Sta Z Z.heap "java/util/ImmutableCollections" "EMPTY" "Ljava/lang/Object;" (.ref em)) (h47_ca0 : ¬ ((ca0.toInt8.toInt32) = (47 : Int32))) (h33_ca0 : ¬ ((ca0.toInt8.toInt32) = (33 : Int32))) (h47_cm0 : ¬ ((cm0.toInt8.toInt32) = (47 : Int32))) (h33_cm0 : ¬ ((cm0.toInt8.toInt32) = (33 : Int32))) (h47_cb0 : ¬ ((cb0.toInt8.toInt32) = (47 : Int32))) (h33_cb0 : ¬ ((cb0.toInt8.toInt32) = (33 : Int32))) (hzc : ¬ (zc = (0 : Int32))) (hn1 : n = (1 : Int32)) :
    MetFree la mn35 (head1 (Jvm.Cond.code mn35 prog_9_method_4_code 3 (some (.object "java/util/List")) :: ws) ({ frames := 6, cells := 18, slots := 298, locals := 95 } : Room)) (fun aa UU => aa = #[(.ref g), (.int n)] ∧ Z.Warmed39 UU.vm ∧ UU.heap = hE ∧ CHv Z ELs UU.vm hE) (fun _ _ _ _ _ => True) (fun _ UU oo UV => ∃ vv LL, oo = .returned vv ∧ Q_fo11 Z g n a ta ca0 m tm cm0 b tb cb0 zc em hE n0 vv UV.heap LL ∧ CHr Z ELs UU.vm UU.heap UV.vm UV.heap ∧ ReturnedEndW UU oo UV LL ({ frames := 6, cells := 18, slots := 298, locals := 95 } : Room).cells ({ frames := 6, cells := 18, slots := 298, locals := 95 } : Room).slots) := by
  refine MetFree.of_bodySF (plainFor_of_name pn_com_example_beanloft_beanloft_naming_GlobalName) hisR ?_
  intro pg ev sb mi gs below me cd s₁ Bd hml0 hPt hKt
  obtain ⟨rfl, hZ, hh, hH⟩ := hPt
  have hx := Bd.exec
  have hby := Bd.bytes
  have hml : cd.maxLocals = 3 := hml0
  have hown : sb.vm.findClass "com/example/beanloft/beanloft/naming/GlobalName" = some mi.cls := findClass_of_methodNamed Bd.named
  have hnm := (name_of_methodNamed Bd.named Bd.method).1
  have X0 : Stand pg la ev ({ frames := 6, cells := 18, slots := 298, locals := 95 } : Room) (sb.setVm sb.vm) mi #[(.ref g), (.int n)] below me cd s₁ [] 0 0 := Stand.of_body Bd
  have eE : s₁.heap = hE := by rw [← hh, Bd.state]; rfl
  have N0 := Fr.nil n0
  have pre0 : ∀ tt, Steps pg.tables ev below (s₁.setTop (mkF mi 0 #[.val (.ref g), .val (.int n), .unset] [])) tt → Steps pg.tables ev below (s₁.setTop (entryFrame mi #[(.ref g), (.int n)] 3)) tt := fun tt kk => castTop (ef_fo11 mi g n) kk
  have hS : sb.Since sb.vm 0 := (State.WarmedH.refl sb).since 0
  have hk : 0 ≤ hE.size := Nat.zero_le _
  have hEL := own_EW hw
  have C0 := CHr.refl hH
  obtain ⟨T101, h101, X101, e101, E101, A101, D101, -, st101⟩ := newO X0 hx hZ hown (wd200 hw) (wd31 hw) (wd32 hw) eE (g := (mkF mi 6 #[.val (.ref g), .val (.int n), .unset] [(.ref g)])) rfl (hb hby d_prog_9_method_4_code_6) (by decide) (by decide)
  obtain ⟨b101, q101⟩ : ∃ z, z = hE.size := ⟨_, rfl⟩
  rw [← q101] at A101 D101 st101
  have c102 := CHr.ext E101 C0.1
  have C103 := CHr.trans C0 c102
  have f104 : Fld Z h101 b101 "com/example/beanloft/beanloft/naming/GlobalName" "appName" "Ljava/lang/String;" .null := D101 (Or.inr (wd100 hw)) (ty := (.object "java/lang/String")) (by decide)
  have f105 : Fld Z h101 b101 "com/example/beanloft/beanloft/naming/GlobalName" "moduleName" "Ljava/lang/String;" .null := D101 (Or.inr (wd102 hw)) (ty := (.object "java/lang/String")) (by decide)
  have f106 : Fld Z h101 b101 "com/example/beanloft/beanloft/naming/GlobalName" "beanName" "Ljava/lang/String;" .null := D101 (Or.inr (wd104 hw)) (ty := (.object "java/lang/String")) (by decide)
  have f107 : Fld Z h101 b101 "com/example/beanloft/beanloft/naming/GlobalName" "viewName" "Ljava/lang/String;" .null := D101 (Or.inr (wd106 hw)) (ty := (.object "java/lang/String")) (by decide)
  have f108 : Fld Z h101 g "com/example/beanloft/beanloft/naming/GlobalName" "appName" "Ljava/lang/String;" (.ref a) := (P1_.ext E101)
  obtain ⟨T109, X109, e109, st109⟩ := getF X101 hx hZ hown (host := "") (Or.inl (wd99 hw)) Via.refl e101 f108 (g := (mkF mi 11 #[.val (.ref g), .val (.int n), .unset] [(.ref g), (.ref b101), (.ref b101), (.ref g)])) rfl rfl (hb hby d_prog_9_method_4_code_11)
  have f110 : Fld Z h101 g "com/example/beanloft/beanloft/naming/GlobalName" "moduleName" "Ljava/lang/String;" (.ref m) := (P2_.ext E101)
  obtain ⟨T111, X111, e111, st111⟩ := getF X109 hx hZ hown (host := "") (Or.inl (wd101 hw)) Via.refl e109 f110 (g := (mkF mi 15 #[.val (.ref g), .val (.int n), .unset] [(.ref g), (.ref a), (.ref b101), (.ref b101), (.ref g)])) rfl rfl (hb hby d_prog_9_method_4_code_15)
  have f112 : Fld Z h101 g "com/example/beanloft/beanloft/naming/GlobalName" "beanName" "Ljava/lang/String;" (.ref b) := (P3_.ext E101)
  obtain ⟨T113, X113, e113, st113⟩ := getF X111 hx hZ hown (host := "") (Or.inl (wd103 hw)) Via.refl e111 f112 (g := (mkF mi 19 #[.val (.ref g), .val (.int n), .unset] [(.ref g), (.ref m), (.ref a), (.ref b101), (.ref b101), (.ref g)])) rfl rfl (hb hby d_prog_9_method_4_code_19)
  have O114 : Old Z n0 h101 := (O.ext E101)
  have f115 : LStr Z h101 a ta ([ca0] : List Int32) := (P4_.ext E101)
  have f116 : LStr Z h101 m tm ([cm0] : List Int32) := (P5_.ext E101)
  have f117 : LStr Z h101 b tb ([cb0] : List Int32) := (P6_.ext E101)
  have g_b101 : n0 ≤ b101 := Nat.le_trans (Nat.le_trans (Nat.le_of_eq O.1.symm) O.2.1) (Nat.le_of_eq q101.symm)
  have ne_a_b101 : a ≠ b101 := Nat.ne_of_lt (Nat.lt_of_lt_of_le P4_.lt (Nat.le_trans (Nat.le_refl _) (Nat.le_of_eq q101.symm)))
  have ne_ta_b101 : ta ≠ b101 := Nat.ne_of_lt (Nat.lt_of_lt_of_le P4_.ltt (Nat.le_trans (Nat.le_refl _) (Nat.le_of_eq q101.symm)))
  have ne_m_b101 : m ≠ b101 := Nat.ne_of_lt (Nat.lt_of_lt_of_le P5_.lt (Nat.le_trans (Nat.le_refl _) (Nat.le_of_eq q101.symm)))
  have ne_tm_b101 : tm ≠ b101 := Nat.ne_of_lt (Nat.lt_of_lt_of_le P5_.ltt (Nat.le_trans (Nat.le_refl _) (Nat.le_of_eq q101.symm)))
  have ne_b_b101 : b ≠ b101 := Nat.ne_of_lt (Nat.lt_of_lt_of_le P6_.lt (Nat.le_trans (Nat.le_refl _) (Nat.le_of_eq q101.symm)))
  have ne_tb_b101 : tb ≠ b101 := Nat.ne_of_lt (Nat.lt_of_lt_of_le P6_.ltt (Nat.le_trans (Nat.le_refl _) (Nat.le_of_eq q101.symm)))
  have pre119 : ∀ tt, Steps pg.tables ev below (T113.setTop (mkF mi 23 #[.val (.ref g), .val (.int n), .unset] [.null, (.ref b), (.ref m), (.ref a), (.ref b101), (.ref b101), (.ref g)])) tt → Steps pg.tables ev below (s₁.setTop (entryFrame mi #[(.ref g), (.int n)] 3)) tt := fun tt kk => pre0 _ (by
    show Steps pg.tables ev below (s₁.setTop (mkF mi 0 #[.val (.ref g), .val (.int n), .unset] [])) _
    refine XS.iloadN X0.here hx rfl (hb hby d_prog_9_method_4_code_0) rfl ?_
    refine XS.iconst X0.here hx rfl (hb hby d_prog_9_method_4_code_1) ?_
    refine XS.icmpNo X0.here hx rfl (hb hby d_prog_9_method_4_code_2) rfl (teq hn1).2 ?_
    refine XS.aloadN X0.here hx rfl (hb hby d_prog_9_method_4_code_5) rfl rfl ?_
    show Steps pg.tables ev below (s₁.setTop (mkF mi 6 #[.val (.ref g), .val (.int n), .unset] [(.ref g)])) _
    refine st101 _ ?_
    show Steps pg.tables ev below (T101.setTop (mkF mi 9 #[.val (.ref g), .val (.int n), .unset] [(.ref b101), (.ref g)])) _
    refine XS.dup X101.here hx rfl (hb hby d_prog_9_method_4_code_9) rfl rfl ?_
    refine XS.aloadN X101.here hx rfl (hb hby d_prog_9_method_4_code_10) rfl rfl ?_
    show Steps pg.tables ev below (T101.setTop (mkF mi 11 #[.val (.ref g), .val (.int n), .unset] [(.ref g), (.ref b101), (.ref b101), (.ref g)])) _
    refine st109 _ ?_
    show Steps pg.tables ev below (T109.setTop (mkF mi 14 #[.val (.ref g), .val (.int n), .unset] [(.ref a), (.ref b101), (.ref b101), (.ref g)])) _
    refine XS.aloadN X109.here hx rfl (hb hby d_prog_9_method_4_code_14) rfl rfl ?_
    show Steps pg.tables ev below (T109.setTop (mkF mi 15 #[.val (.ref g), .val (.int n), .unset] [(.ref g), (.ref a), (.ref b101), (.ref b101), (.ref g)])) _
    refine st111 _ ?_
    show Steps pg.tables ev below (T111.setTop (mkF mi 18 #[.val (.ref g), .val (.int n), .unset] [(.ref m), (.ref a), (.ref b101), (.ref b101), (.ref g)])) _
    refine XS.aloadN X111.here hx rfl (hb hby d_prog_9_method_4_code_18) rfl rfl ?_
    show Steps pg.tables ev below (T111.setTop (mkF mi 19 #[.val (.ref g), .val (.int n), .unset] [(.ref g), (.ref m), (.ref a), (.ref b101), (.ref b101), (.ref g)])) _
    refine st113 _ ?_
    show Steps pg.tables ev below (T113.setTop (mkF mi 22 #[.val (.ref g), .val (.int n), .unset] [(.ref b), (.ref m), (.ref a), (.ref b101), (.ref b101), (.ref g)])) _
    refine XS.aconstNull X113.here hx rfl (hb hby d_prog_9_method_4_code_22) ?_
    exact kk)
  obtain ⟨v118, _, ⟨T118, L118, k118, n118⟩, -, X118, s118, gr118, ⟨Lc118, hQ118, l118, y118, z118, c118⟩, st118⟩ := X113.specialBackS hx (y := mn17) rfl hown (mvT hZ (wd201 hw)) (mvT hZ (wd34 hw)) (mvT hZ (wd35 hw)) (by decide) (backOfSH (W := 2) (rm_gin1110 la Z a0 hw [] b101 a ta ca0 m tm cm0 b tb cb0 zc h101 n0 O114 A101 f104 f105 f106 f107 f115 f116 f117 D0_ g_b101 ne_a_b101 ne_ta_b101 ne_m_b101 ne_tm_b101 ne_b_b101 ne_tb_b101 (h47_ca0 : ¬ ((ca0.toInt8.toInt32) = (47 : Int32))) (h33_ca0 : ¬ ((ca0.toInt8.toInt32) = (33 : Int32))) (h47_cm0 : ¬ ((cm0.toInt8.toInt32) = (47 : Int32))) (h33_cm0 : ¬ ((cm0.toInt8.toInt32) = (33 : Int32))) (h47_cb0 : ¬ ((cb0.toInt8.toInt32) = (47 : Int32))) (h33_cb0 : ¬ ((cb0.toInt8.toInt32) = (33 : Int32))) (hzc : ¬ (zc = (0 : Int32)))) hZ (wd35 hw) (wd32 hw) (by decide) (by decide) hEL C103.1) (g := (mkF mi 23 #[.val (.ref g), .val (.int n), .unset] [.null, (.ref b), (.ref m), (.ref a), (.ref b101), (.ref b101), (.ref g)])) rfl (by rw [hml]; rfl) (Steps.refl _) (a := b101) (argsL := [(.ref a), (.ref m), (.ref b), .null]) (rest := [(.ref b101), (.ref g)]) (lenOf pd_12 rfl) rfl (by show 2 * 0 + _ ≤ _; exact Nat.le_of_eq rfl) (hb hby d_prog_9_method_4_code_23) (fun _ _ => ⟨rfl, e113, (by decide : 1 + 16 ≤ _), (by decide : 4 + 292 ≤ _)⟩)
  dsimp only [Pt.U, Pt.locs, Pt.cells, Pt.slots] at X118 s118 gr118 l118 y118 z118 c118 st118 hQ118
  subst l118 y118 z118
  obtain ⟨X118, hS, hZ, hown⟩ := rebS hS (show _ ≤ T113.heap.size by rw [e113]; exact (Nat.le_trans hk E101.1)) X118 s118 gr118 hZ hown
  have hk : T118.heap.size ≤ T118.heap.size := Nat.le_refl _
  obtain ⟨rfl, Nq118, Kq118, r118_0, r118_1, r118_2, r118_3, r118_4⟩ := hQ118
  have N118 := Fr.app N0 Nq118
  have C120 := CHr.trans C103 c118
  have O121 : Old Z n0 T118.heap := (O114.keep Kq118 (allS g_b101 all0))
  obtain ⟨v122, _, ⟨T122, L122, k122, n122⟩, -, X122, ⟨Lc122, hQ122, l122, y122, z122⟩, st122⟩ := Jvm.LawKit.callS X118 hx (y := mn25) hown (mvT hZ (wd202 hw)) (mvT hZ (wd203 hw)) (mvT hZ (wd114 hw)) (mvT hZ (wd204 hw)) (by decide) (backOf (W := 0) (rm_lo2 la Z a0 hw [] g b101 T118.heap n0 O121) hZ (wd204 hw) (wd114 hw) (by decide) (by decide)) (g := (mkF mi 26 #[.val (.ref g), .val (.int n), .unset] [(.ref b101), (.ref g)])) rfl (by rw [hml]; rfl) (argsL := [(.ref g), (.ref b101)]) (rest := []) (lenOf pd_19 rfl) rfl (by show 2 * 0 + _ ≤ _; exact Nat.le_of_eq rfl) (hb hby d_prog_9_method_4_code_26) (fun _ _ => ⟨rfl, rfl, (by decide : 17 + 1 ≤ _), (by decide : 296 + 2 ≤ _)⟩)
  dsimp only [Pt.U, Pt.locs, Pt.cells, Pt.slots] at X122 l122 y122 z122 st122 hQ122
  subst l122 y122 z122
  obtain ⟨l__122, rfl, Nq122, Kq122, fr_l__122, r122_0, r122_1, r122_2⟩ := hQ122
  have N122 := Fr.app N118 Nq122
  have c123 := CHr.keep Kq122 sf0 C120.1
  have C124 := CHr.trans C120 c123
  have f125 : Exa Z T122.heap b101 "com/example/beanloft/beanloft/naming/GlobalName" := (r118_0.keep Kq122)
  have f126 : Fld Z T122.heap b101 "com/example/beanloft/beanloft/naming/GlobalName" "appName" "Ljava/lang/String;" (.ref a) := (r118_1.keep Kq122 nin0)
  have f127 : Fld Z T122.heap b101 "com/example/beanloft/beanloft/naming/GlobalName" "moduleName" "Ljava/lang/String;" (.ref m) := (r118_2.keep Kq122 nin0)
  have f128 : Fld Z T122.heap b101 "com/example/beanloft/beanloft/naming/GlobalName" "beanName" "Ljava/lang/String;" (.ref b) := (r118_3.keep Kq122 nin0)
  have f129 : Fld Z T122.heap b101 "com/example/beanloft/beanloft/naming/GlobalName" "viewName" "Ljava/lang/String;" .null := (r118_4.keep Kq122 nin0)
  obtain ⟨fs, hr, hrun, hended, hWe⟩ := X122.leaveW hS (show _ ≤ T122.heap.size from (Nat.le_trans hk Kq122.1)) (v := some (.ref l__122)) (fun hq => by rw [Bd.returns] at hq; cases hq)
  refine ⟨_, _, pre119 _ ?_, hrun, hended, _, _, rfl, ?_, ?_, hWe.1, hWe.2.1, hWe.2.2.1, hWe.2.2.2.mono (by decide) (by decide)⟩
  · show Steps pg.tables ev below (T113.setTop (mkF mi 23 #[.val (.ref g), .val (.int n), .unset] [.null, (.ref b), (.ref m), (.ref a), (.ref b101), (.ref b101), (.ref g)])) _
    refine st118.trans ?_
    show Steps pg.tables ev below (T118.setTop (mkF mi 26 #[.val (.ref g), .val (.int n), .unset] [(.ref b101), (.ref g)])) _
    refine st122 _ ?_
    show Steps pg.tables ev below (T122.setTop (mkF mi 29 #[.val (.ref g), .val (.int n), .unset] [(.ref l__122)])) _
    refine XS.astoreN X122.here hx rfl (hb hby d_prog_9_method_4_code_29) rfl rfl (l' := #[.val (.ref g), .val (.int n), .val (.ref l__122)]) rfl ?_
    refine XS.goto X122.here hx rfl (pc0 := 30) (pc' := 38) rfl (hb hby d_prog_9_method_4_code_30) (by decide) (by decide) ?_
    refine XS.aloadN X122.here hx rfl (hb hby d_prog_9_method_4_code_38) rfl rfl ?_
    show Steps pg.tables ev below (T122.setTop (mkF mi 39 #[.val (.ref g), .val (.int n), .val (.ref l__122)] [(.ref l__122)])) _
    jvm_step X122.here [X122.here.top, hx, (hb hby d_prog_9_method_4_code_39), X122.method', Bd.returns, Value.isRef, FieldType.isReference]
    first | (intro acts; rw [hr _ acts rfl rfl rfl]) | rw [hr _ _ rfl rfl rfl]
    exact Steps.refl _
  · show Q_fo11 Z g n a ta ca0 m tm cm0 b tb cb0 zc em hE n0 _ T122.heap _
    exact ⟨l__122, b101, rfl, N122, ((((Keep.refl hE []).ext E101).trans Kq118 (allS (Or.inr (Nat.le_of_eq q101.symm)) all0)).trans Kq122 all0), (Nat.le_trans (Nat.le_trans E101.1 Kq118.1) fr_l__122), (Nat.le_of_eq q101.symm), r122_0, r122_1, r122_2, f125, f126, f127, f128, f129⟩
  · show CHr Z ELs sb.vm sb.heap T122.vm T122.heap
    rw [hh]
    exact CHr.trans C124 (CHv.at X122 hZ hEL C124.1)
theorem pd_20 : parseMethodDescriptor "(I)C" = some ⟨[.int], some .char⟩ := by decide +kernel
theorem pd_21 : parseMethodDescriptor "(C)Ljava/lang/String;" = some ⟨[.char], some (.object "java/lang/String")⟩ := by decide +kernel
theorem pd_22 : parseMethodDescriptor "(I)Ljava/util/List;" = some ⟨[.int], some (.object "java/util/List")⟩ := by decide +kernel
theorem pd_23 : parseMethodDescriptor "()I" = some ⟨[], some .int⟩ := by decide +kernel
theorem pd_24 : parseMethodDescriptor "(I)Ljava/lang/Object;" = some ⟨[.int], some (.object "java/lang/Object")⟩ := by decide +kernel
theorem pd_25 : parseMethodDescriptor "(Lcom/example/beanloft/beanloft/naming/GlobalName;Ljava/lang/String;Ljava/lang/String;Ljava/lang/String;Ljava/lang/String;)Z" = some ⟨[(.object "com/example/beanloft/beanloft/naming/GlobalName"), (.object "java/lang/String"), (.object "java/lang/String"), (.object "java/lang/String"), (.object "java/lang/String")], some .boolean⟩ := by decide +kernel
theorem ef_law (mi : MethodId) (x0 : Int32) (x1 : Int32) (x2 : Int32) : entryFrame mi #[(.int x0), (.int x1), (.int x2)] maxLocals = mkF mi 0 #[.val (.int x0), .val (.int x1), .val (.int x2), .unset, .unset, .unset, .unset, .unset, .unset] [] := by first | (simp [entryFrame, mkF, argsToLocals, Value.category, maxLocals]; done) | rfl
def Q_law (Z : State) (x0 : Int32) (x1 : Int32) (x2 : Int32) (zc : Int32) (em : Addr) (hE : Heap) (n0 : Nat) (vv : Option Value) (hh : Heap) (LL : List Loc) : Prop := (vv = some (.int (1 : Int32))) ∧ (Fr n0 LL)
set_option maxRecDepth 65536 in
set_option maxHeartbeats 40000000 in
theorem rm_law (la : Launch) (Z : State) (a0 : Array Value) (hw : ∀ d ∈ tables_1, d.before a0 Z = true) (ws : List Jvm.Cond) (x0 : Int32) (x1 : Int32) (x2 : Int32) (zc : Int32) (em : Addr) (hE : Heap) (n0 : Nat) (O : Old Z n0 hE) (D0_ : Sta Z Z.heap "java/lang/String" "COMPACT_STRINGS" "Z" (.int zc)) (D1_ : Sta Z Z.heap "java/util/ImmutableCollections" "EMPTY" "Ljava/lang/Object;" (.ref em)) (D2_ : Exa Z Z.heap em "java/lang/Object") (hzc : ¬ (zc = (0 : Int32))) :
    MetFree la x (head1 (Jvm.Cond.code x code maxLocals ret :: ws) room_1) (fun aa UU => aa = #[(.int x0), (.int x1), (.int x2)] ∧ Z.Warmed39 UU.vm ∧ UU.heap = hE ∧ CHv Z ELs UU.vm hE) (fun _ _ _ _ _ => True) (fun _ UU oo UV => ∃ vv LL, oo = .returned vv ∧ Q_law Z x0 x1 x2 zc em hE n0 vv UV.heap LL ∧ CHr Z ELs UU.vm UU.heap UV.vm UV.heap ∧ ReturnedEndW UU oo UV LL room_1.cells room_1.slots) := by
  refine MetFree.of_bodySF (plainFor_of_name pn_com_example_beanloft_beanloft_naming_GlobalNameFormsPinLaw) hisR ?_
  intro pg ev sb mi gs below me cd s₁ Bd hml0 hPt hKt
  obtain ⟨rfl, hZ, hh, hH⟩ := hPt
  have hx := Bd.exec
  have hby := Bd.bytes
  have hml : cd.maxLocals = 9 := hml0
  have hown : sb.vm.findClass "com/example/beanloft/beanloft/naming/GlobalNameFormsPinLaw" = some mi.cls := findClass_of_methodNamed Bd.named
  have hnm := (name_of_methodNamed Bd.named Bd.method).1
  have X0 : Stand pg la ev room_1 (sb.setVm sb.vm) mi #[(.int x0), (.int x1), (.int x2)] below me cd s₁ [] 0 0 := Stand.of_body Bd
  have eE : s₁.heap = hE := by rw [← hh, Bd.state]; rfl
  have N0 := Fr.nil n0
  have pre0 : ∀ tt, Steps pg.tables ev below (s₁.setTop (mkF mi 0 #[.val (.int x0), .val (.int x1), .val (.int x2), .unset, .unset, .unset, .unset, .unset, .unset] [])) tt → Steps pg.tables ev below (s₁.setTop (entryFrame mi #[(.int x0), (.int x1), (.int x2)] maxLocals)) tt := fun tt kk => castTop (ef_law mi x0 x1 x2) kk
  have hS : sb.Since sb.vm 0 := (State.WarmedH.refl sb).since 0
  have hk : 0 ≤ hE.size := Nat.zero_le _
  have hEL := own_EW hw
  have C0 := CHr.refl hH
  have pre102 : ∀ tt, Steps pg.tables ev below (s₁.setTop (mkF mi 3 #[.val (.int x0), .val (.int x1), .val (.int x2), .unset, .unset, .unset, .unset, .unset, .unset] [(.int (x2 &&& (1 : Int32)))])) tt → Steps pg.tables ev below (s₁.setTop (entryFrame mi #[(.int x0), (.int x1), (.int x2)] maxLocals)) tt := fun tt kk => pre0 _ (by
    show Steps pg.tables ev below (s₁.setTop (mkF mi 0 #[.val (.int x0), .val (.int x1), .val (.int x2), .unset, .unset, .unset, .unset, .unset, .unset] [])) _
    refine XS.iloadN X0.here hx rfl (hb hby at_0) rfl ?_
    refine XS.iconst X0.here hx rfl (hb hby at_1) ?_
    refine XS.iand X0.here hx rfl (hb hby at_2) rfl ?_
    exact kk)
  by_cases hc101 : (x2 &&& (1 : Int32)) = (0 : Int32)
  · obtain ⟨v103, _, ⟨T103, L103, k103, n103⟩, -, X103, ⟨Lc103, hQ103, l103, y103, z103⟩, st103⟩ := Jvm.LawKit.callS X0 hx (y := mn0) hown (mvT hZ (wd0 hw)) (mvT hZ (wd1 hw)) (mvT hZ (wd2 hw)) (mvT hZ (wd3 hw)) (by decide) (backOf (W := 0) (rm_chc la Z a0 hw [] ((x1.toUInt32 >>> ((8 : Int32) &&& 31).toUInt32).toInt32) hE n0 O) hZ (wd3 hw) (wd2 hw) (by decide) (by decide)) (g := (mkF mi 22 #[.val (.int x0), .val (.int x1), .val (.int x2), .val .null, .unset, .unset, .unset, .unset, .unset] [(.int ((x1.toUInt32 >>> ((8 : Int32) &&& 31).toUInt32).toInt32))])) rfl (by rw [hml]; rfl) (argsL := [(.int ((x1.toUInt32 >>> ((8 : Int32) &&& 31).toUInt32).toInt32))]) (rest := []) (lenOf pd_20 rfl) rfl (by show 2 * 0 + _ ≤ _; exact Nat.le_of_eq rfl) (hb hby at_22) (fun _ _ => ⟨rfl, eE, (by decide : 0 + 0 ≤ _), (by decide : 0 + 0 ≤ _)⟩)
    dsimp only [Pt.U, Pt.locs, Pt.cells, Pt.slots] at X103 l103 y103 z103 st103 hQ103
    subst l103 y103 z103
    obtain ⟨rfl, Nq103, ek103⟩ := hQ103
    have N103 := Fr.app N0 Nq103
    obtain ⟨cm, he_cm⟩ : ∃ z, z = (chF ((x1.toUInt32 >>> ((8 : Int32) &&& 31).toUInt32).toInt32)) := ⟨_, rfl⟩
    have pre104 : ∀ tt, Steps pg.tables ev below (T103.setTop (mkF mi 25 #[.val (.int x0), .val (.int x1), .val (.int x2), .val .null, .unset, .unset, .unset, .unset, .unset] [(.int (chF ((x1.toUInt32 >>> ((8 : Int32) &&& 31).toUInt32).toInt32)))])) tt → Steps pg.tables ev below (s₁.setTop (entryFrame mi #[(.int x0), (.int x1), (.int x2)] maxLocals)) tt := fun tt kk => pre102 _ (by
      show Steps pg.tables ev below (s₁.setTop (mkF mi 3 #[.val (.int x0), .val (.int x1), .val (.int x2), .unset, .unset, .unset, .unset, .unset, .unset] [(.int (x2 &&& (1 : Int32)))])) _
      refine XS.ifYes X0.here hx rfl (pc0 := 3) (pc' := 16) rfl (hb hby at_3) rfl ((if0 _ _).trans (teq hc101).1) (by decide) (by decide) ?_
      refine XS.aconstNull X0.here hx rfl (hb hby at_16) ?_
      refine XS.astoreN X0.here hx rfl (hb hby at_17) rfl rfl (l' := #[.val (.int x0), .val (.int x1), .val (.int x2), .val .null, .unset, .unset, .unset, .unset, .unset]) rfl ?_
      refine XS.iloadN X0.here hx rfl (hb hby at_18) rfl ?_
      refine XS.bipush X0.here hx rfl (hb hby at_19) ?_
      refine XS.iushr X0.here hx rfl (hb hby at_21) rfl ?_
      show Steps pg.tables ev below (s₁.setTop (mkF mi 22 #[.val (.int x0), .val (.int x1), .val (.int x2), .val .null, .unset, .unset, .unset, .unset, .unset] [(.int ((x1.toUInt32 >>> ((8 : Int32) &&& 31).toUInt32).toInt32))])) _
      refine st103 _ ?_
      exact kk)
    have pre105 : ∀ tt, Steps pg.tables ev below (T103.setTop (mkF mi 25 #[.val (.int x0), .val (.int x1), .val (.int x2), .val .null, .unset, .unset, .unset, .unset, .unset] [(.int cm)])) tt → Steps pg.tables ev below (s₁.setTop (entryFrame mi #[(.int x0), (.int x1), (.int x2)] maxLocals)) tt := fun tt kk => pre104 tt (by rw [← he_cm]; exact kk)
    have o_cm : ¬ (cm < (0 : Int32)) ∧ ¬ ((255 : Int32) < cm) ∧ ¬ (cm = (47 : Int32)) ∧ ¬ (cm = (33 : Int32)) := he_cm ▸ own_chB _
    have z_cm : ¬ (cm < (0 : Int32)) := o_cm.1
    have y_cm : ¬ ((255 : Int32) < cm) := o_cm.2.1
    have s47_cm : ¬ ((cm.toInt8.toInt32) = (47 : Int32)) := own_ch_byte z_cm y_cm (by decide) o_cm.2.2.1
    have s33_cm : ¬ ((cm.toInt8.toInt32) = (33 : Int32)) := own_ch_byte z_cm y_cm (by decide) o_cm.2.2.2
    obtain ⟨v106, _, ⟨T106, L106, k106, n106⟩, -, X106, ⟨Lc106, hQ106, l106, y106, z106⟩, st106⟩ := Jvm.LawKit.callS X103 hx (y := mn4) hown (mvT hZ (wd4 hw)) (mvT hZ (wd5 hw)) (mvT hZ (wd6 hw)) (mvT hZ (wd7 hw)) (by decide) (backOf (W := 0) (rm_vof la Z a0 hw [] cm zc hE n0 O D0_ (y_cm : ¬ ((255 : Int32) < cm)) (z_cm : ¬ (cm < (0 : Int32))) (hzc : ¬ (zc = (0 : Int32)))) hZ (wd7 hw) (wd6 hw) (by decide) (by decide)) (g := (mkF mi 25 #[.val (.int x0), .val (.int x1), .val (.int x2), .val .null, .unset, .unset, .unset, .unset, .unset] [(.int cm)])) rfl (by rw [hml]; rfl) (argsL := [(.int cm)]) (rest := []) (lenOf pd_21 rfl) rfl (by show 2 * 0 + _ ≤ _; exact Nat.le_of_eq rfl) (hb hby at_25) (fun _ _ => ⟨rfl, ek103, (by decide : 0 + 2 ≤ _), (by decide : 0 + 5 ≤ _)⟩)
    dsimp only [Pt.U, Pt.locs, Pt.cells, Pt.slots] at X106 l106 y106 z106 st106 hQ106
    subst l106 y106 z106
    obtain ⟨x_106, t_106, rfl, Nq106, Kq106, fr_x_106, fr_t_106, r106_0⟩ := hQ106
    have N106 := Fr.app N103 Nq106
    have c107 := CHr.keep Kq106 sf0 C0.1
    have C108 := CHr.trans C0 c107
    have O109 : Old Z n0 T106.heap := (O.keep Kq106 all0)
    obtain ⟨v110, _, ⟨T110, L110, k110, n110⟩, -, X110, ⟨Lc110, hQ110, l110, y110, z110⟩, st110⟩ := Jvm.LawKit.callS X106 hx (y := mn0) hown (mvT hZ (wd0 hw)) (mvT hZ (wd1 hw)) (mvT hZ (wd2 hw)) (mvT hZ (wd3 hw)) (by decide) (backOf (W := 0) (rm_chc la Z a0 hw [] ((x1.toUInt32 >>> ((16 : Int32) &&& 31).toUInt32).toInt32) T106.heap n0 O109) hZ (wd3 hw) (wd2 hw) (by decide) (by decide)) (g := (mkF mi 34 #[.val (.int x0), .val (.int x1), .val (.int x2), .val .null, .val (.ref x_106), .unset, .unset, .unset, .unset] [(.int ((x1.toUInt32 >>> ((16 : Int32) &&& 31).toUInt32).toInt32))])) rfl (by rw [hml]; rfl) (argsL := [(.int ((x1.toUInt32 >>> ((16 : Int32) &&& 31).toUInt32).toInt32))]) (rest := []) (lenOf pd_20 rfl) rfl (by show 2 * 0 + _ ≤ _; exact Nat.le_of_eq rfl) (hb hby at_34) (fun _ _ => ⟨rfl, rfl, (by decide : 2 + 0 ≤ _), (by decide : 5 + 0 ≤ _)⟩)
    dsimp only [Pt.U, Pt.locs, Pt.cells, Pt.slots] at X110 l110 y110 z110 st110 hQ110
    subst l110 y110 z110
    obtain ⟨rfl, Nq110, ek110⟩ := hQ110
    have N110 := Fr.app N106 Nq110
    obtain ⟨cb, he_cb⟩ : ∃ z, z = (chF ((x1.toUInt32 >>> ((16 : Int32) &&& 31).toUInt32).toInt32)) := ⟨_, rfl⟩
    have pre111 : ∀ tt, Steps pg.tables ev below (T110.setTop (mkF mi 37 #[.val (.int x0), .val (.int x1), .val (.int x2), .val .null, .val (.ref x_106), .unset, .unset, .unset, .unset] [(.int (chF ((x1.toUInt32 >>> ((16 : Int32) &&& 31).toUInt32).toInt32)))])) tt → Steps pg.tables ev below (s₁.setTop (entryFrame mi #[(.int x0), (.int x1), (.int x2)] maxLocals)) tt := fun tt kk => pre105 _ (by
      show Steps pg.tables ev below (T103.setTop (mkF mi 25 #[.val (.int x0), .val (.int x1), .val (.int x2), .val .null, .unset, .unset, .unset, .unset, .unset] [(.int cm)])) _
      refine st106 _ ?_
      show Steps pg.tables ev below (T106.setTop (mkF mi 28 #[.val (.int x0), .val (.int x1), .val (.int x2), .val .null, .unset, .unset, .unset, .unset, .unset] [(.ref x_106)])) _
      refine XS.astore X106.here hx rfl (hb hby at_28) rfl rfl (l' := #[.val (.int x0), .val (.int x1), .val (.int x2), .val .null, .val (.ref x_106), .unset, .unset, .unset, .unset]) rfl ?_
      refine XS.iloadN X106.here hx rfl (hb hby at_30) rfl ?_
      refine XS.bipush X106.here hx rfl (hb hby at_31) ?_
      refine XS.iushr X106.here hx rfl (hb hby at_33) rfl ?_
      show Steps pg.tables ev below (T106.setTop (mkF mi 34 #[.val (.int x0), .val (.int x1), .val (.int x2), .val .null, .val (.ref x_106), .unset, .unset, .unset, .unset] [(.int ((x1.toUInt32 >>> ((16 : Int32) &&& 31).toUInt32).toInt32))])) _
      refine st110 _ ?_
      exact kk)
    have pre112 : ∀ tt, Steps pg.tables ev below (T110.setTop (mkF mi 37 #[.val (.int x0), .val (.int x1), .val (.int x2), .val .null, .val (.ref x_106), .unset, .unset, .unset, .unset] [(.int cb)])) tt → Steps pg.tables ev below (s₁.setTop (entryFrame mi #[(.int x0), (.int x1), (.int x2)] maxLocals)) tt := fun tt kk => pre111 tt (by rw [← he_cb]; exact kk)
    have o_cb : ¬ (cb < (0 : Int32)) ∧ ¬ ((255 : Int32) < cb) ∧ ¬ (cb = (47 : Int32)) ∧ ¬ (cb = (33 : Int32)) := he_cb ▸ own_chB _
    have z_cb : ¬ (cb < (0 : Int32)) := o_cb.1
    have y_cb : ¬ ((255 : Int32) < cb) := o_cb.2.1
    have s47_cb : ¬ ((cb.toInt8.toInt32) = (47 : Int32)) := own_ch_byte z_cb y_cb (by decide) o_cb.2.2.1
    have s33_cb : ¬ ((cb.toInt8.toInt32) = (33 : Int32)) := own_ch_byte z_cb y_cb (by decide) o_cb.2.2.2
    obtain ⟨v113, _, ⟨T113, L113, k113, n113⟩, -, X113, ⟨Lc113, hQ113, l113, y113, z113⟩, st113⟩ := Jvm.LawKit.callS X110 hx (y := mn4) hown (mvT hZ (wd4 hw)) (mvT hZ (wd5 hw)) (mvT hZ (wd6 hw)) (mvT hZ (wd7 hw)) (by decide) (backOf (W := 0) (rm_vof la Z a0 hw [] cb zc T106.heap n0 O109 D0_ (y_cb : ¬ ((255 : Int32) < cb)) (z_cb : ¬ (cb < (0 : Int32))) (hzc : ¬ (zc = (0 : Int32)))) hZ (wd7 hw) (wd6 hw) (by decide) (by decide)) (g := (mkF mi 37 #[.val (.int x0), .val (.int x1), .val (.int x2), .val .null, .val (.ref x_106), .unset, .unset, .unset, .unset] [(.int cb)])) rfl (by rw [hml]; rfl) (argsL := [(.int cb)]) (rest := []) (lenOf pd_21 rfl) rfl (by show 2 * 0 + _ ≤ _; exact Nat.le_of_eq rfl) (hb hby at_37) (fun _ _ => ⟨rfl, ek110, (by decide : 2 + 2 ≤ _), (by decide : 5 + 5 ≤ _)⟩)
    dsimp only [Pt.U, Pt.locs, Pt.cells, Pt.slots] at X113 l113 y113 z113 st113 hQ113
    subst l113 y113 z113
    obtain ⟨x_113, t_113, rfl, Nq113, Kq113, fr_x_113, fr_t_113, r113_0⟩ := hQ113
    have N113 := Fr.app N110 Nq113
    have c114 := CHr.keep Kq113 sf0 C108.1
    have C115 := CHr.trans C108 c114
    have pre117 : ∀ tt, Steps pg.tables ev below (T113.setTop (mkF mi 45 #[.val (.int x0), .val (.int x1), .val (.int x2), .val .null, .val (.ref x_106), .val (.ref x_113), .unset, .unset, .unset] [(.int (x2 &&& (2 : Int32)))])) tt → Steps pg.tables ev below (s₁.setTop (entryFrame mi #[(.int x0), (.int x1), (.int x2)] maxLocals)) tt := fun tt kk => pre112 _ (by
      show Steps pg.tables ev below (T110.setTop (mkF mi 37 #[.val (.int x0), .val (.int x1), .val (.int x2), .val .null, .val (.ref x_106), .unset, .unset, .unset, .unset] [(.int cb)])) _
      refine st113 _ ?_
      show Steps pg.tables ev below (T113.setTop (mkF mi 40 #[.val (.int x0), .val (.int x1), .val (.int x2), .val .null, .val (.ref x_106), .unset, .unset, .unset, .unset] [(.ref x_113)])) _
      refine XS.astore X113.here hx rfl (hb hby at_40) rfl rfl (l' := #[.val (.int x0), .val (.int x1), .val (.int x2), .val .null, .val (.ref x_106), .val (.ref x_113), .unset, .unset, .unset]) rfl ?_
      refine XS.iloadN X113.here hx rfl (hb hby at_42) rfl ?_
      refine XS.iconst X113.here hx rfl (hb hby at_43) ?_
      refine XS.iand X113.here hx rfl (hb hby at_44) rfl ?_
      exact kk)
    by_cases hc116 : (x2 &&& (2 : Int32)) = (0 : Int32)
    · obtain ⟨T118, h118, X118, e118, E118, A118, D118, -, st118⟩ := newO X113 hx hZ hown (wd30 hw) (wd31 hw) (wd32 hw) rfl (g := (mkF mi 64 #[.val (.int x0), .val (.int x1), .val (.int x2), .val .null, .val (.ref x_106), .val (.ref x_113), .val .null, .unset, .unset] [])) rfl (hb hby at_64) (by decide) (by decide)
      obtain ⟨b118, q118⟩ : ∃ z, z = T113.heap.size := ⟨_, rfl⟩
      rw [← q118] at A118 D118 st118
      have c119 := CHr.ext E118 C115.1
      have C120 := CHr.trans C115 c119
      have f121 : Fld Z h118 b118 "com/example/beanloft/beanloft/naming/GlobalName" "appName" "Ljava/lang/String;" .null := D118 (Or.inr (wd100 hw)) (ty := (.object "java/lang/String")) (by decide)
      have f122 : Fld Z h118 b118 "com/example/beanloft/beanloft/naming/GlobalName" "moduleName" "Ljava/lang/String;" .null := D118 (Or.inr (wd102 hw)) (ty := (.object "java/lang/String")) (by decide)
      have f123 : Fld Z h118 b118 "com/example/beanloft/beanloft/naming/GlobalName" "beanName" "Ljava/lang/String;" .null := D118 (Or.inr (wd104 hw)) (ty := (.object "java/lang/String")) (by decide)
      have f124 : Fld Z h118 b118 "com/example/beanloft/beanloft/naming/GlobalName" "viewName" "Ljava/lang/String;" .null := D118 (Or.inr (wd106 hw)) (ty := (.object "java/lang/String")) (by decide)
      have O125 : Old Z n0 h118 := ((O109.keep Kq113 all0).ext E118)
      have f126 : LStr Z h118 x_106 t_106 ([cm] : List Int32) := ((r106_0.keep Kq113 nin0 nin0).ext E118)
      have f127 : LStr Z h118 x_113 t_113 ([cb] : List Int32) := (r113_0.ext E118)
      have O128 : Old Z n0 T113.heap := (O109.keep Kq113 all0)
      have g_b118 : n0 ≤ b118 := Nat.le_trans (Nat.le_trans (Nat.le_of_eq O128.1.symm) O128.2.1) (Nat.le_of_eq q118.symm)
      have ne_x_106_b118 : x_106 ≠ b118 := Nat.ne_of_lt (Nat.lt_of_lt_of_le r106_0.lt (Nat.le_trans Kq113.1 (Nat.le_of_eq q118.symm)))
      have ne_t_106_b118 : t_106 ≠ b118 := Nat.ne_of_lt (Nat.lt_of_lt_of_le r106_0.ltt (Nat.le_trans Kq113.1 (Nat.le_of_eq q118.symm)))
      have ne_x_113_b118 : x_113 ≠ b118 := Nat.ne_of_lt (Nat.lt_of_lt_of_le r113_0.lt (Nat.le_trans (Nat.le_refl _) (Nat.le_of_eq q118.symm)))
      have ne_t_113_b118 : t_113 ≠ b118 := Nat.ne_of_lt (Nat.lt_of_lt_of_le r113_0.ltt (Nat.le_trans (Nat.le_refl _) (Nat.le_of_eq q118.symm)))
      have pre130 : ∀ tt, Steps pg.tables ev below (T118.setTop (mkF mi 75 #[.val (.int x0), .val (.int x1), .val (.int x2), .val .null, .val (.ref x_106), .val (.ref x_113), .val .null, .unset, .unset] [.null, (.ref x_113), (.ref x_106), .null, (.ref b118), (.ref b118)])) tt → Steps pg.tables ev below (s₁.setTop (entryFrame mi #[(.int x0), (.int x1), (.int x2)] maxLocals)) tt := fun tt kk => pre117 _ (by
        show Steps pg.tables ev below (T113.setTop (mkF mi 45 #[.val (.int x0), .val (.int x1), .val (.int x2), .val .null, .val (.ref x_106), .val (.ref x_113), .unset, .unset, .unset] [(.int (x2 &&& (2 : Int32)))])) _
        refine XS.ifYes X113.here hx rfl (pc0 := 45) (pc' := 61) rfl (hb hby at_45) rfl ((if0 _ _).trans (teq hc116).1) (by decide) (by decide) ?_
        refine XS.aconstNull X113.here hx rfl (hb hby at_61) ?_
        refine XS.astore X113.here hx rfl (hb hby at_62) rfl rfl (l' := #[.val (.int x0), .val (.int x1), .val (.int x2), .val .null, .val (.ref x_106), .val (.ref x_113), .val .null, .unset, .unset]) rfl ?_
        show Steps pg.tables ev below (T113.setTop (mkF mi 64 #[.val (.int x0), .val (.int x1), .val (.int x2), .val .null, .val (.ref x_106), .val (.ref x_113), .val .null, .unset, .unset] [])) _
        refine st118 _ ?_
        show Steps pg.tables ev below (T118.setTop (mkF mi 67 #[.val (.int x0), .val (.int x1), .val (.int x2), .val .null, .val (.ref x_106), .val (.ref x_113), .val .null, .unset, .unset] [(.ref b118)])) _
        refine XS.dup X118.here hx rfl (hb hby at_67) rfl rfl ?_
        refine XS.aloadN X118.here hx rfl (hb hby at_68) rfl rfl ?_
        refine XS.aload X118.here hx rfl (hb hby at_69) rfl rfl ?_
        refine XS.aload X118.here hx rfl (hb hby at_71) rfl rfl ?_
        refine XS.aload X118.here hx rfl (hb hby at_73) rfl rfl ?_
        exact kk)
      obtain ⟨v129, _, ⟨T129, L129, k129, n129⟩, -, X129, s129, gr129, ⟨Lc129, hQ129, l129, y129, z129, c129⟩, st129⟩ := X118.specialBackS hx (y := mn17) rfl hown (mvT hZ (wd33 hw)) (mvT hZ (wd34 hw)) (mvT hZ (wd35 hw)) (by decide) (backOfSH (W := 1) (rm_gin0110 la Z a0 hw [] b118 x_106 t_106 cm x_113 t_113 cb zc h118 n0 O125 A118 f121 f122 f123 f124 f126 f127 D0_ g_b118 ne_x_106_b118 ne_t_106_b118 ne_x_113_b118 ne_t_113_b118 (s47_cm : ¬ ((cm.toInt8.toInt32) = (47 : Int32))) (s33_cm : ¬ ((cm.toInt8.toInt32) = (33 : Int32))) (s47_cb : ¬ ((cb.toInt8.toInt32) = (47 : Int32))) (s33_cb : ¬ ((cb.toInt8.toInt32) = (33 : Int32))) (hzc : ¬ (zc = (0 : Int32)))) hZ (wd35 hw) (wd32 hw) (by decide) (by decide) hEL C120.1) (g := (mkF mi 75 #[.val (.int x0), .val (.int x1), .val (.int x2), .val .null, .val (.ref x_106), .val (.ref x_113), .val .null, .unset, .unset] [.null, (.ref x_113), (.ref x_106), .null, (.ref b118), (.ref b118)])) rfl (by rw [hml]; rfl) (Steps.refl _) (a := b118) (argsL := [.null, (.ref x_106), (.ref x_113), .null]) (rest := [(.ref b118)]) (lenOf pd_12 rfl) rfl (by show 2 * 0 + _ ≤ _; exact Nat.le_of_eq rfl) (hb hby at_75) (fun _ _ => ⟨rfl, e118, (by decide : 5 + 16 ≤ _), (by decide : 14 + 292 ≤ _)⟩)
      dsimp only [Pt.U, Pt.locs, Pt.cells, Pt.slots] at X129 s129 gr129 l129 y129 z129 c129 st129 hQ129
      subst l129 y129 z129
      obtain ⟨X129, hS, hZ, hown⟩ := rebS hS (show _ ≤ T118.heap.size by rw [e118]; exact (Nat.le_trans hk (Nat.le_trans (Nat.le_trans Kq106.1 Kq113.1) E118.1))) X129 s129 gr129 hZ hown
      have hk : T129.heap.size ≤ T129.heap.size := Nat.le_refl _
      obtain ⟨rfl, Nq129, Kq129, r129_0, r129_1, r129_2, r129_3, r129_4⟩ := hQ129
      have N129 := Fr.app N113 Nq129
      have C131 := CHr.trans C120 c129
      have pre132 : ∀ tt, Steps pg.tables ev below (T129.setTop (mkF mi 83 #[.val (.int x0), .val (.int x1), .val (.int x2), .val .null, .val (.ref x_106), .val (.ref x_113), .val .null, .val (.ref b118), .unset] [(.int x0), (.ref b118)])) tt → Steps pg.tables ev below (s₁.setTop (entryFrame mi #[(.int x0), (.int x1), (.int x2)] maxLocals)) tt := fun tt kk => pre130 _ (by
        show Steps pg.tables ev below (T118.setTop (mkF mi 75 #[.val (.int x0), .val (.int x1), .val (.int x2), .val .null, .val (.ref x_106), .val (.ref x_113), .val .null, .unset, .unset] [.null, (.ref x_113), (.ref x_106), .null, (.ref b118), (.ref b118)])) _
        refine st129.trans ?_
        show Steps pg.tables ev below (T129.setTop (mkF mi 78 #[.val (.int x0), .val (.int x1), .val (.int x2), .val .null, .val (.ref x_106), .val (.ref x_113), .val .null, .unset, .unset] [(.ref b118)])) _
        refine XS.astore X129.here hx rfl (hb hby at_78) rfl rfl (l' := #[.val (.int x0), .val (.int x1), .val (.int x2), .val .null, .val (.ref x_106), .val (.ref x_113), .val .null, .val (.ref b118), .unset]) rfl ?_
        refine XS.aload X129.here hx rfl (hb hby at_80) rfl rfl ?_
        refine XS.iloadN X129.here hx rfl (hb hby at_82) rfl ?_
        exact kk)
      by_cases hc133 : x0 = (1 : Int32)
      · have O134 : Old Z n0 T129.heap := (O125.keep Kq129 (allS g_b118 all0))
        have f135 : LStr Z T129.heap x_106 t_106 ([cm] : List Int32) := (f126.keep Kq129 (ninS ne_x_106_b118 nin0) (ninS ne_t_106_b118 nin0))
        have f136 : LStr Z T129.heap x_113 t_113 ([cb] : List Int32) := (f127.keep Kq129 (ninS ne_x_113_b118 nin0) (ninS ne_t_113_b118 nin0))
        obtain ⟨cq137, kq137, q137a, q137b, q137c⟩ := isOf hZ rfl r129_0
        obtain ⟨v137, _, ⟨T137, L137, k137, n137⟩, -, X137, s137, gr137, ⟨Lc137, hQ137, l137, y137, z137, c137⟩, st137⟩ := X129.virtualBackS hx (y := mn35) (z := mn35) hown (mvT hZ (wd107 hw)) (mvT hZ (wd108 hw)) (notFace_of_selects (args := #[]) (mvT hZ (wd110 hw))) (mvT hZ (wd110 hw)) (mvT hZ (wd109 hw)) (by decide) (backOfSH (W := 0) (rm_fo01 la Z a0 hw [] b118 x0 x_106 t_106 cm x_113 t_113 cb zc em T129.heap n0 O134 r129_0 r129_1 r129_2 r129_3 f135 f136 D0_ D1_ (s47_cm : ¬ ((cm.toInt8.toInt32) = (47 : Int32))) (s33_cm : ¬ ((cm.toInt8.toInt32) = (33 : Int32))) (s47_cb : ¬ ((cb.toInt8.toInt32) = (47 : Int32))) (s33_cb : ¬ ((cb.toInt8.toInt32) = (33 : Int32))) (hzc : ¬ (zc = (0 : Int32))) (hc133 : x0 = (1 : Int32))) hZ (wd111 hw) (wd32 hw) (by decide) (by decide) hEL C131.1) q137a q137c (g := (mkF mi 83 #[.val (.int x0), .val (.int x1), .val (.int x2), .val .null, .val (.ref x_106), .val (.ref x_113), .val .null, .val (.ref b118), .unset] [(.int x0), (.ref b118)])) rfl (by rw [hml]; rfl) (Steps.refl _) (argsL := [(.int x0)]) (rest := []) (lenOf pd_22 rfl) rfl (by show 2 * 0 + _ ≤ _; exact Nat.le_of_eq rfl) (hb hby at_83) (fun _ _ => ⟨rfl, rfl, (by decide : 21 + 18 ≤ _), (by decide : 306 + 298 ≤ _)⟩)
        dsimp only [Pt.U, Pt.locs, Pt.cells, Pt.slots] at X137 s137 gr137 l137 y137 z137 c137 st137 hQ137
        subst l137 y137 z137
        obtain ⟨X137, hS, hZ, hown⟩ := rebS hS (show _ ≤ T129.heap.size from hk) X137 s137 gr137 hZ hown
        have hk : T137.heap.size ≤ T137.heap.size := Nat.le_refl _
        obtain ⟨l__137, g2_137, rfl, Nq137, Kq137, fr_l__137, fr_g2_137, r137_0, r137_1, r137_2, r137_3, r137_4, r137_5, r137_6, r137_7⟩ := hQ137
        have N137 := Fr.app N129 Nq137
        have C138 := CHr.trans C131 c137
        have O139 : Old Z n0 T137.heap := (O134.keep Kq137 all0)
        have ne_em_g2_137 : em ≠ g2_137 := Nat.ne_of_lt (Nat.lt_of_lt_of_le D2_.lt (Nat.le_trans O134.2.1 fr_g2_137))
        obtain ⟨cq140, kq140, q140a, q140b, q140c⟩ := isOf hZ rfl r137_0
        obtain ⟨v140, _, ⟨T140, L140, k140, n140⟩, -, X140, ⟨Lc140, hQ140, l140, y140, z140⟩, st140⟩ := X137.interfaceBack hx (xi := mn36) (y := mn26) hown (mvT hZ (wd151 hw)) (mvT hZ (wd152 hw)) (mvT hZ (wd153 hw)) (mvT hZ (wd154 hw)) (mvT hZ (wd155 hw)) (mvT hZ (wd156 hw)) (mvT hZ (wd157 hw)) (mvT hZ (wd158 hw)) (by decide) (backOf (W := 0) (rm_sz2 la Z a0 hw [] l__137 g2_137 em T137.heap n0 O139 r137_2 D1_ (Ne.symm ne_em_g2_137)) hZ (wd159 hw) (wd118 hw) (by decide) (by decide)) q140a q140b q140c (g := (mkF mi 95 #[.val (.int x0), .val (.int x1), .val (.int x2), .val .null, .val (.ref x_106), .val (.ref x_113), .val .null, .val (.ref b118), .val (.ref l__137)] [(.ref l__137)])) rfl (by rw [hml]; rfl) (Steps.refl _) (argsL := []) (rest := []) (lenOf pd_23 rfl) rfl (by show 2 * 0 + _ ≤ _; exact Nat.le_of_eq rfl) (hb hby at_95) (fun _ _ => ⟨rfl, rfl, (by decide : 39 + 0 ≤ _), (by decide : 604 + 0 ≤ _)⟩)
        dsimp only [Pt.U, Pt.locs, Pt.cells, Pt.slots] at X140 l140 y140 z140 st140 hQ140
        subst l140 y140 z140
        obtain ⟨rfl, Nq140, ek140⟩ := hQ140
        have N140 := Fr.app N137 Nq140
        obtain ⟨cq141, kq141, q141a, q141b, q141c⟩ := isOf hZ ek140 r137_0
        obtain ⟨v141, _, ⟨T141, L141, k141, n141⟩, -, X141, ⟨Lc141, hQ141, l141, y141, z141⟩, st141⟩ := X140.interfaceBack hx (xi := mn37) (y := mn27) hown (mvT hZ (wd160 hw)) (mvT hZ (wd161 hw)) (mvT hZ (wd162 hw)) (mvT hZ (wd163 hw)) (mvT hZ (wd164 hw)) (mvT hZ (wd165 hw)) (mvT hZ (wd166 hw)) (mvT hZ (wd158 hw)) (by decide) (backOf (W := 0) (rm_get0 la Z a0 hw [] l__137 b118 T137.heap n0 O139 r137_1) hZ (wd167 hw) (wd118 hw) (by decide) (by decide)) q141a q141b q141c (g := (mkF mi 107 #[.val (.int x0), .val (.int x1), .val (.int x2), .val .null, .val (.ref x_106), .val (.ref x_113), .val .null, .val (.ref b118), .val (.ref l__137)] [(.int (0 : Int32)), (.ref l__137)])) rfl (by rw [hml]; rfl) (Steps.refl _) (argsL := [(.int (0 : Int32))]) (rest := []) (lenOf pd_24 rfl) rfl (by show 2 * 0 + _ ≤ _; exact Nat.le_of_eq rfl) (hb hby at_107) (fun _ _ => ⟨rfl, ek140, (by decide : 39 + 0 ≤ _), (by decide : 604 + 0 ≤ _)⟩)
        dsimp only [Pt.U, Pt.locs, Pt.cells, Pt.slots] at X141 l141 y141 z141 st141 hQ141
        subst l141 y141 z141
        obtain ⟨rfl, Nq141, ek141⟩ := hQ141
        have N141 := Fr.app N140 Nq141
        have f142 : Exa Z T137.heap b118 "com/example/beanloft/beanloft/naming/GlobalName" := (r129_0.keep Kq137)
        obtain ⟨T143, X143, e143, st143⟩ := castY X141 hx hZ hown (wd30 hw) ek141 (Ins.self f142) (g := (mkF mi 112 #[.val (.int x0), .val (.int x1), .val (.int x2), .val .null, .val (.ref x_106), .val (.ref x_113), .val .null, .val (.ref b118), .val (.ref l__137)] [(.ref b118)])) rfl rfl (hb hby at_112)
        have f144 : Fld Z T137.heap b118 "com/example/beanloft/beanloft/naming/GlobalName" "appName" "Ljava/lang/String;" .null := (r129_1.keep Kq137 nin0)
        have f145 : Fld Z T137.heap b118 "com/example/beanloft/beanloft/naming/GlobalName" "moduleName" "Ljava/lang/String;" (.ref x_106) := (r129_2.keep Kq137 nin0)
        have f146 : Fld Z T137.heap b118 "com/example/beanloft/beanloft/naming/GlobalName" "beanName" "Ljava/lang/String;" (.ref x_113) := (r129_3.keep Kq137 nin0)
        have f147 : Fld Z T137.heap b118 "com/example/beanloft/beanloft/naming/GlobalName" "viewName" "Ljava/lang/String;" .null := (r129_4.keep Kq137 nin0)
        have f148 : LStr Z T137.heap x_106 t_106 ([cm] : List Int32) := (f135.keep Kq137 nin0 nin0)
        have f149 : Exa Z T137.heap x_106 "java/lang/String" := (f148).1
        have f150 : LStr Z T137.heap x_113 t_113 ([cb] : List Int32) := (f136.keep Kq137 nin0 nin0)
        have f151 : Exa Z T137.heap x_113 "java/lang/String" := (f150).1
        obtain ⟨v152, _, ⟨T152, L152, k152, n152⟩, -, X152, ⟨Lc152, hQ152, l152, y152, z152⟩, st152⟩ := Jvm.LawKit.callS X143 hx (y := mn34) hown (mvT hZ (wd169 hw)) (mvT hZ (wd170 hw)) (mvT hZ (wd2 hw)) (mvT hZ (wd171 hw)) (by decide) (backOf (W := 0) (rm_same00 la Z a0 hw [] b118 x_106 x_113 T137.heap n0 O139 f142 f144 f145 f146 f147 f149 f151) hZ (wd171 hw) (wd2 hw) (by decide) (by decide)) (g := (mkF mi 122 #[.val (.int x0), .val (.int x1), .val (.int x2), .val .null, .val (.ref x_106), .val (.ref x_113), .val .null, .val (.ref b118), .val (.ref l__137)] [.null, (.ref x_113), (.ref x_106), .null, (.ref b118)])) rfl (by rw [hml]; rfl) (argsL := [(.ref b118), .null, (.ref x_106), (.ref x_113), .null]) (rest := []) (lenOf pd_25 rfl) rfl (by show 2 * 0 + _ ≤ _; exact Nat.le_of_eq rfl) (hb hby at_122) (fun _ _ => ⟨rfl, e143, (by decide : 39 + 0 ≤ _), (by decide : 604 + 0 ≤ _)⟩)
        dsimp only [Pt.U, Pt.locs, Pt.cells, Pt.slots] at X152 l152 y152 z152 st152 hQ152
        subst l152 y152 z152
        obtain ⟨rfl, Nq152, ek152⟩ := hQ152
        have N152 := Fr.app N141 Nq152
        obtain ⟨cq153, kq153, q153a, q153b, q153c⟩ := isOf hZ ek152 r137_0
        obtain ⟨v153, _, ⟨T153, L153, k153, n153⟩, -, X153, ⟨Lc153, hQ153, l153, y153, z153⟩, st153⟩ := X152.interfaceBack hx (xi := mn37) (y := mn27) hown (mvT hZ (wd160 hw)) (mvT hZ (wd161 hw)) (mvT hZ (wd162 hw)) (mvT hZ (wd163 hw)) (mvT hZ (wd164 hw)) (mvT hZ (wd165 hw)) (mvT hZ (wd166 hw)) (mvT hZ (wd158 hw)) (by decide) (backOf (W := 0) (rm_get1 la Z a0 hw [] l__137 g2_137 em T137.heap n0 O139 r137_2 D1_ (Ne.symm ne_em_g2_137)) hZ (wd167 hw) (wd118 hw) (by decide) (by decide)) q153a q153b q153c (g := (mkF mi 131 #[.val (.int x0), .val (.int x1), .val (.int x2), .val .null, .val (.ref x_106), .val (.ref x_113), .val .null, .val (.ref b118), .val (.ref l__137)] [(.int (1 : Int32)), (.ref l__137)])) rfl (by rw [hml]; rfl) (Steps.refl _) (argsL := [(.int (1 : Int32))]) (rest := []) (lenOf pd_24 rfl) rfl (by show 2 * 0 + _ ≤ _; exact Nat.le_of_eq rfl) (hb hby at_131) (fun _ _ => ⟨rfl, ek152, (by decide : 39 + 0 ≤ _), (by decide : 604 + 0 ≤ _)⟩)
        dsimp only [Pt.U, Pt.locs, Pt.cells, Pt.slots] at X153 l153 y153 z153 st153 hQ153
        subst l153 y153 z153
        obtain ⟨rfl, Nq153, ek153⟩ := hQ153
        have N153 := Fr.app N152 Nq153
        obtain ⟨T154, X154, e154, st154⟩ := castY X153 hx hZ hown (wd30 hw) ek153 (Ins.self r137_3) (g := (mkF mi 136 #[.val (.int x0), .val (.int x1), .val (.int x2), .val .null, .val (.ref x_106), .val (.ref x_113), .val .null, .val (.ref b118), .val (.ref l__137)] [(.ref g2_137)])) rfl rfl (hb hby at_136)
        obtain ⟨v155, _, ⟨T155, L155, k155, n155⟩, -, X155, ⟨Lc155, hQ155, l155, y155, z155⟩, st155⟩ := Jvm.LawKit.callS X154 hx (y := mn34) hown (mvT hZ (wd169 hw)) (mvT hZ (wd170 hw)) (mvT hZ (wd2 hw)) (mvT hZ (wd171 hw)) (by decide) (backOf (W := 0) (rm_same00 la Z a0 hw [] g2_137 x_106 x_113 T137.heap n0 O139 r137_3 r137_4 r137_5 r137_6 r137_7 f149 f151) hZ (wd171 hw) (wd2 hw) (by decide) (by decide)) (g := (mkF mi 145 #[.val (.int x0), .val (.int x1), .val (.int x2), .val .null, .val (.ref x_106), .val (.ref x_113), .val .null, .val (.ref b118), .val (.ref l__137)] [.null, (.ref x_113), (.ref x_106), .null, (.ref g2_137)])) rfl (by rw [hml]; rfl) (argsL := [(.ref g2_137), .null, (.ref x_106), (.ref x_113), .null]) (rest := []) (lenOf pd_25 rfl) rfl (by show 2 * 0 + _ ≤ _; exact Nat.le_of_eq rfl) (hb hby at_145) (fun _ _ => ⟨rfl, e154, (by decide : 39 + 0 ≤ _), (by decide : 604 + 0 ≤ _)⟩)
        dsimp only [Pt.U, Pt.locs, Pt.cells, Pt.slots] at X155 l155 y155 z155 st155 hQ155
        subst l155 y155 z155
        obtain ⟨rfl, Nq155, ek155⟩ := hQ155
        have N155 := Fr.app N153 Nq155
        obtain ⟨fs, hr, hrun, hended, hWe⟩ := X155.leaveW hS (show _ ≤ T155.heap.size by rw [ek155]; exact hk) (v := some (.int (1 : Int32))) (fun hq => by rw [Bd.returns] at hq; cases hq)
        refine ⟨_, _, pre132 _ ?_, hrun, hended, _, _, rfl, ?_, ?_, hWe.1, hWe.2.1, hWe.2.2.1, hWe.2.2.2.mono (by decide) (by decide)⟩
        · show Steps pg.tables ev below (T129.setTop (mkF mi 83 #[.val (.int x0), .val (.int x1), .val (.int x2), .val .null, .val (.ref x_106), .val (.ref x_113), .val .null, .val (.ref b118), .unset] [(.int x0), (.ref b118)])) _
          refine st137.trans ?_
          show Steps pg.tables ev below (T137.setTop (mkF mi 86 #[.val (.int x0), .val (.int x1), .val (.int x2), .val .null, .val (.ref x_106), .val (.ref x_113), .val .null, .val (.ref b118), .unset] [(.ref l__137)])) _
          refine XS.astore X137.here hx rfl (hb hby at_86) rfl rfl (l' := #[.val (.int x0), .val (.int x1), .val (.int x2), .val .null, .val (.ref x_106), .val (.ref x_113), .val .null, .val (.ref b118), .val (.ref l__137)]) rfl ?_
          refine XS.iloadN X137.here hx rfl (hb hby at_88) rfl ?_
          refine XS.iconst X137.here hx rfl (hb hby at_89) ?_
          refine XS.icmpNo X137.here hx rfl (hb hby at_90) rfl (teq hc133).2 ?_
          refine XS.aload X137.here hx rfl (hb hby at_93) rfl rfl ?_
          show Steps pg.tables ev below (T137.setTop (mkF mi 95 #[.val (.int x0), .val (.int x1), .val (.int x2), .val .null, .val (.ref x_106), .val (.ref x_113), .val .null, .val (.ref b118), .val (.ref l__137)] [(.ref l__137)])) _
          refine st140.trans ?_
          show Steps pg.tables ev below (T140.setTop (mkF mi 100 #[.val (.int x0), .val (.int x1), .val (.int x2), .val .null, .val (.ref x_106), .val (.ref x_113), .val .null, .val (.ref b118), .val (.ref l__137)] [(.int (2 : Int32))])) _
          refine XS.iconst X140.here hx rfl (hb hby at_100) ?_
          refine XS.icmpNo X140.here hx rfl (hb hby at_101) rfl (teq (rfl : (2 : Int32) = (2 : Int32))).2 ?_
          refine XS.aload X140.here hx rfl (hb hby at_104) rfl rfl ?_
          refine XS.iconst X140.here hx rfl (hb hby at_106) ?_
          show Steps pg.tables ev below (T140.setTop (mkF mi 107 #[.val (.int x0), .val (.int x1), .val (.int x2), .val .null, .val (.ref x_106), .val (.ref x_113), .val .null, .val (.ref b118), .val (.ref l__137)] [(.int (0 : Int32)), (.ref l__137)])) _
          refine st141.trans ?_
          show Steps pg.tables ev below (T141.setTop (mkF mi 112 #[.val (.int x0), .val (.int x1), .val (.int x2), .val .null, .val (.ref x_106), .val (.ref x_113), .val .null, .val (.ref b118), .val (.ref l__137)] [(.ref b118)])) _
          refine st143 _ ?_
          show Steps pg.tables ev below (T143.setTop (mkF mi 115 #[.val (.int x0), .val (.int x1), .val (.int x2), .val .null, .val (.ref x_106), .val (.ref x_113), .val .null, .val (.ref b118), .val (.ref l__137)] [(.ref b118)])) _
          refine XS.aloadN X143.here hx rfl (hb hby at_115) rfl rfl ?_
          refine XS.aload X143.here hx rfl (hb hby at_116) rfl rfl ?_
          refine XS.aload X143.here hx rfl (hb hby at_118) rfl rfl ?_
          refine XS.aload X143.here hx rfl (hb hby at_120) rfl rfl ?_
          show Steps pg.tables ev below (T143.setTop (mkF mi 122 #[.val (.int x0), .val (.int x1), .val (.int x2), .val .null, .val (.ref x_106), .val (.ref x_113), .val .null, .val (.ref b118), .val (.ref l__137)] [.null, (.ref x_113), (.ref x_106), .null, (.ref b118)])) _
          refine st152 _ ?_
          show Steps pg.tables ev below (T152.setTop (mkF mi 125 #[.val (.int x0), .val (.int x1), .val (.int x2), .val .null, .val (.ref x_106), .val (.ref x_113), .val .null, .val (.ref b118), .val (.ref l__137)] [(.int (1 : Int32))])) _
          refine XS.ifNo X152.here hx rfl (hb hby at_125) rfl ((if0 _ _).trans (feq (by decide : ¬ ((1 : Int32) = (0 : Int32)))).1) ?_
          refine XS.aload X152.here hx rfl (hb hby at_128) rfl rfl ?_
          refine XS.iconst X152.here hx rfl (hb hby at_130) ?_
          show Steps pg.tables ev below (T152.setTop (mkF mi 131 #[.val (.int x0), .val (.int x1), .val (.int x2), .val .null, .val (.ref x_106), .val (.ref x_113), .val .null, .val (.ref b118), .val (.ref l__137)] [(.int (1 : Int32)), (.ref l__137)])) _
          refine st153.trans ?_
          show Steps pg.tables ev below (T153.setTop (mkF mi 136 #[.val (.int x0), .val (.int x1), .val (.int x2), .val .null, .val (.ref x_106), .val (.ref x_113), .val .null, .val (.ref b118), .val (.ref l__137)] [(.ref g2_137)])) _
          refine st154 _ ?_
          show Steps pg.tables ev below (T154.setTop (mkF mi 139 #[.val (.int x0), .val (.int x1), .val (.int x2), .val .null, .val (.ref x_106), .val (.ref x_113), .val .null, .val (.ref b118), .val (.ref l__137)] [(.ref g2_137)])) _
          refine XS.aloadN X154.here hx rfl (hb hby at_139) rfl rfl ?_
          refine XS.aload X154.here hx rfl (hb hby at_140) rfl rfl ?_
          refine XS.aload X154.here hx rfl (hb hby at_142) rfl rfl ?_
          refine XS.aconstNull X154.here hx rfl (hb hby at_144) ?_
          show Steps pg.tables ev below (T154.setTop (mkF mi 145 #[.val (.int x0), .val (.int x1), .val (.int x2), .val .null, .val (.ref x_106), .val (.ref x_113), .val .null, .val (.ref b118), .val (.ref l__137)] [.null, (.ref x_113), (.ref x_106), .null, (.ref g2_137)])) _
          refine st155 _ ?_
          show Steps pg.tables ev below (T155.setTop (mkF mi 148 #[.val (.int x0), .val (.int x1), .val (.int x2), .val .null, .val (.ref x_106), .val (.ref x_113), .val .null, .val (.ref b118), .val (.ref l__137)] [(.int (1 : Int32))])) _
          refine XS.ifNo X155.here hx rfl (hb hby at_148) rfl ((if0 _ _).trans (feq (by decide : ¬ ((1 : Int32) = (0 : Int32)))).1) ?_
          refine XS.iconst X155.here hx rfl (hb hby at_151) ?_
          refine XS.goto X155.here hx rfl (pc0 := 152) (pc' := 156) rfl (hb hby at_152) (by decide) (by decide) ?_
          show Steps pg.tables ev below (T155.setTop (mkF mi 156 #[.val (.int x0), .val (.int x1), .val (.int x2), .val .null, .val (.ref x_106), .val (.ref x_113), .val .null, .val (.ref b118), .val (.ref l__137)] [(.int (1 : Int32))])) _
          exact retN X155 hx (t := .boolean) Bd.returns (by simp) (hb hby at_156) hr
        · show Q_law Z x0 x1 x2 zc em hE n0 _ T155.heap _
          rw [ek155]
          exact ⟨rfl, N155⟩
        · show CHr Z ELs sb.vm sb.heap T155.vm T155.heap
          rw [hh, ek155]
          exact CHr.trans C138 (CHv.at X155 hZ hEL C138.1)
      · have O156 : Old Z n0 T129.heap := (O125.keep Kq129 (allS g_b118 all0))
        have f157 : LStr Z T129.heap x_106 t_106 ([cm] : List Int32) := (f126.keep Kq129 (ninS ne_x_106_b118 nin0) (ninS ne_t_106_b118 nin0))
        have f158 : LStr Z T129.heap x_113 t_113 ([cb] : List Int32) := (f127.keep Kq129 (ninS ne_x_113_b118 nin0) (ninS ne_t_113_b118 nin0))
        obtain ⟨cq159, kq159, q159a, q159b, q159c⟩ := isOf hZ rfl r129_0
        obtain ⟨v159, _, ⟨T159, L159, k159, n159⟩, -, X159, s159, gr159, ⟨Lc159, hQ159, l159, y159, z159, c159⟩, st159⟩ := X129.virtualBackS hx (y := mn35) (z := mn35) hown (mvT hZ (wd107 hw)) (mvT hZ (wd108 hw)) (notFace_of_selects (args := #[]) (mvT hZ (wd110 hw))) (mvT hZ (wd110 hw)) (mvT hZ (wd109 hw)) (by decide) (backOfSH (W := 0) (rm_fo00 la Z a0 hw [] b118 x0 x_106 t_106 cm x_113 t_113 cb zc em T129.heap n0 O156 r129_0 r129_1 r129_2 r129_3 f157 f158 D0_ D1_ (hzc : ¬ (zc = (0 : Int32))) (hc133 : ¬ (x0 = (1 : Int32)))) hZ (wd111 hw) (wd32 hw) (by decide) (by decide) hEL C131.1) q159a q159c (g := (mkF mi 83 #[.val (.int x0), .val (.int x1), .val (.int x2), .val .null, .val (.ref x_106), .val (.ref x_113), .val .null, .val (.ref b118), .unset] [(.int x0), (.ref b118)])) rfl (by rw [hml]; rfl) (Steps.refl _) (argsL := [(.int x0)]) (rest := []) (lenOf pd_22 rfl) rfl (by show 2 * 0 + _ ≤ _; exact Nat.le_of_eq rfl) (hb hby at_83) (fun _ _ => ⟨rfl, rfl, (by decide : 21 + 1 ≤ _), (by decide : 306 + 2 ≤ _)⟩)
        dsimp only [Pt.U, Pt.locs, Pt.cells, Pt.slots] at X159 s159 gr159 l159 y159 z159 c159 st159 hQ159
        subst l159 y159 z159
        obtain ⟨X159, hS, hZ, hown⟩ := rebS hS (show _ ≤ T129.heap.size from hk) X159 s159 gr159 hZ hown
        have hk : T159.heap.size ≤ T159.heap.size := Nat.le_refl _
        obtain ⟨l__159, rfl, Nq159, Kq159, fr_l__159, r159_0, r159_1, r159_2⟩ := hQ159
        have N159 := Fr.app N129 Nq159
        have C160 := CHr.trans C131 c159
        have O161 : Old Z n0 T159.heap := (O156.keep Kq159 all0)
        obtain ⟨cq162, kq162, q162a, q162b, q162c⟩ := isOf hZ rfl r159_0
        obtain ⟨v162, _, ⟨T162, L162, k162, n162⟩, -, X162, ⟨Lc162, hQ162, l162, y162, z162⟩, st162⟩ := X159.interfaceBack hx (xi := mn36) (y := mn26) hown (mvT hZ (wd151 hw)) (mvT hZ (wd152 hw)) (mvT hZ (wd153 hw)) (mvT hZ (wd154 hw)) (mvT hZ (wd155 hw)) (mvT hZ (wd156 hw)) (mvT hZ (wd157 hw)) (mvT hZ (wd158 hw)) (by decide) (backOf (W := 0) (rm_sz1 la Z a0 hw [] l__159 em T159.heap n0 O161 r159_2 D1_) hZ (wd159 hw) (wd118 hw) (by decide) (by decide)) q162a q162b q162c (g := (mkF mi 159 #[.val (.int x0), .val (.int x1), .val (.int x2), .val .null, .val (.ref x_106), .val (.ref x_113), .val .null, .val (.ref b118), .val (.ref l__159)] [(.ref l__159)])) rfl (by rw [hml]; rfl) (Steps.refl _) (argsL := []) (rest := []) (lenOf pd_23 rfl) rfl (by show 2 * 0 + _ ≤ _; exact Nat.le_of_eq rfl) (hb hby at_159) (fun _ _ => ⟨rfl, rfl, (by decide : 22 + 0 ≤ _), (by decide : 308 + 0 ≤ _)⟩)
        dsimp only [Pt.U, Pt.locs, Pt.cells, Pt.slots] at X162 l162 y162 z162 st162 hQ162
        subst l162 y162 z162
        obtain ⟨rfl, Nq162, ek162⟩ := hQ162
        have N162 := Fr.app N159 Nq162
        obtain ⟨cq163, kq163, q163a, q163b, q163c⟩ := isOf hZ ek162 r159_0
        obtain ⟨v163, _, ⟨T163, L163, k163, n163⟩, -, X163, ⟨Lc163, hQ163, l163, y163, z163⟩, st163⟩ := X162.interfaceBack hx (xi := mn37) (y := mn27) hown (mvT hZ (wd160 hw)) (mvT hZ (wd161 hw)) (mvT hZ (wd162 hw)) (mvT hZ (wd163 hw)) (mvT hZ (wd164 hw)) (mvT hZ (wd165 hw)) (mvT hZ (wd166 hw)) (mvT hZ (wd158 hw)) (by decide) (backOf (W := 0) (rm_get0 la Z a0 hw [] l__159 b118 T159.heap n0 O161 r159_1) hZ (wd167 hw) (wd118 hw) (by decide) (by decide)) q163a q163b q163c (g := (mkF mi 171 #[.val (.int x0), .val (.int x1), .val (.int x2), .val .null, .val (.ref x_106), .val (.ref x_113), .val .null, .val (.ref b118), .val (.ref l__159)] [(.int (0 : Int32)), (.ref l__159)])) rfl (by rw [hml]; rfl) (Steps.refl _) (argsL := [(.int (0 : Int32))]) (rest := []) (lenOf pd_24 rfl) rfl (by show 2 * 0 + _ ≤ _; exact Nat.le_of_eq rfl) (hb hby at_171) (fun _ _ => ⟨rfl, ek162, (by decide : 22 + 0 ≤ _), (by decide : 308 + 0 ≤ _)⟩)
        dsimp only [Pt.U, Pt.locs, Pt.cells, Pt.slots] at X163 l163 y163 z163 st163 hQ163
        subst l163 y163 z163
        obtain ⟨rfl, Nq163, ek163⟩ := hQ163
        have N163 := Fr.app N162 Nq163
        have f164 : Exa Z T159.heap b118 "com/example/beanloft/beanloft/naming/GlobalName" := (r129_0.keep Kq159)
        obtain ⟨T165, X165, e165, st165⟩ := castY X163 hx hZ hown (wd30 hw) ek163 (Ins.self f164) (g := (mkF mi 176 #[.val (.int x0), .val (.int x1), .val (.int x2), .val .null, .val (.ref x_106), .val (.ref x_113), .val .null, .val (.ref b118), .val (.ref l__159)] [(.ref b118)])) rfl rfl (hb hby at_176)
        have f166 : Fld Z T159.heap b118 "com/example/beanloft/beanloft/naming/GlobalName" "appName" "Ljava/lang/String;" .null := (r129_1.keep Kq159 nin0)
        have f167 : Fld Z T159.heap b118 "com/example/beanloft/beanloft/naming/GlobalName" "moduleName" "Ljava/lang/String;" (.ref x_106) := (r129_2.keep Kq159 nin0)
        have f168 : Fld Z T159.heap b118 "com/example/beanloft/beanloft/naming/GlobalName" "beanName" "Ljava/lang/String;" (.ref x_113) := (r129_3.keep Kq159 nin0)
        have f169 : Fld Z T159.heap b118 "com/example/beanloft/beanloft/naming/GlobalName" "viewName" "Ljava/lang/String;" .null := (r129_4.keep Kq159 nin0)
        have f170 : LStr Z T159.heap x_106 t_106 ([cm] : List Int32) := (f157.keep Kq159 nin0 nin0)
        have f171 : Exa Z T159.heap x_106 "java/lang/String" := (f170).1
        have f172 : LStr Z T159.heap x_113 t_113 ([cb] : List Int32) := (f158.keep Kq159 nin0 nin0)
        have f173 : Exa Z T159.heap x_113 "java/lang/String" := (f172).1
        obtain ⟨v174, _, ⟨T174, L174, k174, n174⟩, -, X174, ⟨Lc174, hQ174, l174, y174, z174⟩, st174⟩ := Jvm.LawKit.callS X165 hx (y := mn34) hown (mvT hZ (wd169 hw)) (mvT hZ (wd170 hw)) (mvT hZ (wd2 hw)) (mvT hZ (wd171 hw)) (by decide) (backOf (W := 0) (rm_same00 la Z a0 hw [] b118 x_106 x_113 T159.heap n0 O161 f164 f166 f167 f168 f169 f171 f173) hZ (wd171 hw) (wd2 hw) (by decide) (by decide)) (g := (mkF mi 186 #[.val (.int x0), .val (.int x1), .val (.int x2), .val .null, .val (.ref x_106), .val (.ref x_113), .val .null, .val (.ref b118), .val (.ref l__159)] [.null, (.ref x_113), (.ref x_106), .null, (.ref b118)])) rfl (by rw [hml]; rfl) (argsL := [(.ref b118), .null, (.ref x_106), (.ref x_113), .null]) (rest := []) (lenOf pd_25 rfl) rfl (by show 2 * 0 + _ ≤ _; exact Nat.le_of_eq rfl) (hb hby at_186) (fun _ _ => ⟨rfl, e165, (by decide : 22 + 0 ≤ _), (by decide : 308 + 0 ≤ _)⟩)
        dsimp only [Pt.U, Pt.locs, Pt.cells, Pt.slots] at X174 l174 y174 z174 st174 hQ174
        subst l174 y174 z174
        obtain ⟨rfl, Nq174, ek174⟩ := hQ174
        have N174 := Fr.app N163 Nq174
        obtain ⟨fs, hr, hrun, hended, hWe⟩ := X174.leaveW hS (show _ ≤ T174.heap.size by rw [ek174]; exact hk) (v := some (.int (1 : Int32))) (fun hq => by rw [Bd.returns] at hq; cases hq)
        refine ⟨_, _, pre132 _ ?_, hrun, hended, _, _, rfl, ?_, ?_, hWe.1, hWe.2.1, hWe.2.2.1, hWe.2.2.2.mono (by decide) (by decide)⟩
        · show Steps pg.tables ev below (T129.setTop (mkF mi 83 #[.val (.int x0), .val (.int x1), .val (.int x2), .val .null, .val (.ref x_106), .val (.ref x_113), .val .null, .val (.ref b118), .unset] [(.int x0), (.ref b118)])) _
          refine st159.trans ?_
          show Steps pg.tables ev below (T159.setTop (mkF mi 86 #[.val (.int x0), .val (.int x1), .val (.int x2), .val .null, .val (.ref x_106), .val (.ref x_113), .val .null, .val (.ref b118), .unset] [(.ref l__159)])) _
          refine XS.astore X159.here hx rfl (hb hby at_86) rfl rfl (l' := #[.val (.int x0), .val (.int x1), .val (.int x2), .val .null, .val (.ref x_106), .val (.ref x_113), .val .null, .val (.ref b118), .val (.ref l__159)]) rfl ?_
          refine XS.iloadN X159.here hx rfl (hb hby at_88) rfl ?_
          refine XS.iconst X159.here hx rfl (hb hby at_89) ?_
          refine XS.icmpYes X159.here hx rfl (pc0 := 90) (pc' := 157) rfl (hb hby at_90) rfl (feq hc133).2 (by decide) (by decide) ?_
          refine XS.aload X159.here hx rfl (hb hby at_157) rfl rfl ?_
          show Steps pg.tables ev below (T159.setTop (mkF mi 159 #[.val (.int x0), .val (.int x1), .val (.int x2), .val .null, .val (.ref x_106), .val (.ref x_113), .val .null, .val (.ref b118), .val (.ref l__159)] [(.ref l__159)])) _
          refine st162.trans ?_
          show Steps pg.tables ev below (T162.setTop (mkF mi 164 #[.val (.int x0), .val (.int x1), .val (.int x2), .val .null, .val (.ref x_106), .val (.ref x_113), .val .null, .val (.ref b118), .val (.ref l__159)] [(.int (1 : Int32))])) _
          refine XS.iconst X162.here hx rfl (hb hby at_164) ?_
          refine XS.icmpNo X162.here hx rfl (hb hby at_165) rfl (teq (rfl : (1 : Int32) = (1 : Int32))).2 ?_
          refine XS.aload X162.here hx rfl (hb hby at_168) rfl rfl ?_
          refine XS.iconst X162.here hx rfl (hb hby at_170) ?_
          show Steps pg.tables ev below (T162.setTop (mkF mi 171 #[.val (.int x0), .val (.int x1), .val (.int x2), .val .null, .val (.ref x_106), .val (.ref x_113), .val .null, .val (.ref b118), .val (.ref l__159)] [(.int (0 : Int32)), (.ref l__159)])) _
          refine st163.trans ?_
          show Steps pg.tables ev below (T163.setTop (mkF mi 176 #[.val (.int x0), .val (.int x1), .val (.int x2), .val .null, .val (.ref x_106), .val (.ref x_113), .val .null, .val (.ref b118), .val (.ref l__159)] [(.ref b118)])) _
          refine st165 _ ?_
          show Steps pg.tables ev below (T165.setTop (mkF mi 179 #[.val (.int x0), .val (.int x1), .val (.int x2), .val .null, .val (.ref x_106), .val (.ref x_113), .val .null, .val (.ref b118), .val (.ref l__159)] [(.ref b118)])) _
          refine XS.aloadN X165.here hx rfl (hb hby at_179) rfl rfl ?_
          refine XS.aload X165.here hx rfl (hb hby at_180) rfl rfl ?_
          refine XS.aload X165.here hx rfl (hb hby at_182) rfl rfl ?_
          refine XS.aload X165.here hx rfl (hb hby at_184) rfl rfl ?_
          show Steps pg.tables ev below (T165.setTop (mkF mi 186 #[.val (.int x0), .val (.int x1), .val (.int x2), .val .null, .val (.ref x_106), .val (.ref x_113), .val .null, .val (.ref b118), .val (.ref l__159)] [.null, (.ref x_113), (.ref x_106), .null, (.ref b118)])) _
          refine st174 _ ?_
          show Steps pg.tables ev below (T174.setTop (mkF mi 189 #[.val (.int x0), .val (.int x1), .val (.int x2), .val .null, .val (.ref x_106), .val (.ref x_113), .val .null, .val (.ref b118), .val (.ref l__159)] [(.int (1 : Int32))])) _
          refine XS.ifNo X174.here hx rfl (hb hby at_189) rfl ((if0 _ _).trans (feq (by decide : ¬ ((1 : Int32) = (0 : Int32)))).1) ?_
          refine XS.iconst X174.here hx rfl (hb hby at_192) ?_
          refine XS.goto X174.here hx rfl (pc0 := 193) (pc' := 197) rfl (hb hby at_193) (by decide) (by decide) ?_
          show Steps pg.tables ev below (T174.setTop (mkF mi 197 #[.val (.int x0), .val (.int x1), .val (.int x2), .val .null, .val (.ref x_106), .val (.ref x_113), .val .null, .val (.ref b118), .val (.ref l__159)] [(.int (1 : Int32))])) _
          exact retN X174 hx (t := .boolean) Bd.returns (by simp) (hb hby at_197) hr
        · show Q_law Z x0 x1 x2 zc em hE n0 _ T174.heap _
          rw [ek174]
          exact ⟨rfl, N174⟩
        · show CHr Z ELs sb.vm sb.heap T174.vm T174.heap
          rw [hh, ek174]
          exact CHr.trans C160 (CHv.at X174 hZ hEL C160.1)
    · have O175 : Old Z n0 T113.heap := (O109.keep Kq113 all0)
      obtain ⟨v176, _, ⟨T176, L176, k176, n176⟩, -, X176, ⟨Lc176, hQ176, l176, y176, z176⟩, st176⟩ := Jvm.LawKit.callS X113 hx (y := mn0) hown (mvT hZ (wd0 hw)) (mvT hZ (wd1 hw)) (mvT hZ (wd2 hw)) (mvT hZ (wd3 hw)) (by decide) (backOf (W := 0) (rm_chc la Z a0 hw [] ((x1.toUInt32 >>> ((24 : Int32) &&& 31).toUInt32).toInt32) T113.heap n0 O175) hZ (wd3 hw) (wd2 hw) (by decide) (by decide)) (g := (mkF mi 52 #[.val (.int x0), .val (.int x1), .val (.int x2), .val .null, .val (.ref x_106), .val (.ref x_113), .unset, .unset, .unset] [(.int ((x1.toUInt32 >>> ((24 : Int32) &&& 31).toUInt32).toInt32))])) rfl (by rw [hml]; rfl) (argsL := [(.int ((x1.toUInt32 >>> ((24 : Int32) &&& 31).toUInt32).toInt32))]) (rest := []) (lenOf pd_20 rfl) rfl (by show 2 * 0 + _ ≤ _; exact Nat.le_of_eq rfl) (hb hby at_52) (fun _ _ => ⟨rfl, rfl, (by decide : 4 + 0 ≤ _), (by decide : 10 + 0 ≤ _)⟩)
      dsimp only [Pt.U, Pt.locs, Pt.cells, Pt.slots] at X176 l176 y176 z176 st176 hQ176
      subst l176 y176 z176
      obtain ⟨rfl, Nq176, ek176⟩ := hQ176
      have N176 := Fr.app N113 Nq176
      obtain ⟨cv, he_cv⟩ : ∃ z, z = (chF ((x1.toUInt32 >>> ((24 : Int32) &&& 31).toUInt32).toInt32)) := ⟨_, rfl⟩
      have pre177 : ∀ tt, Steps pg.tables ev below (T176.setTop (mkF mi 55 #[.val (.int x0), .val (.int x1), .val (.int x2), .val .null, .val (.ref x_106), .val (.ref x_113), .unset, .unset, .unset] [(.int (chF ((x1.toUInt32 >>> ((24 : Int32) &&& 31).toUInt32).toInt32)))])) tt → Steps pg.tables ev below (s₁.setTop (entryFrame mi #[(.int x0), (.int x1), (.int x2)] maxLocals)) tt := fun tt kk => pre117 _ (by
        show Steps pg.tables ev below (T113.setTop (mkF mi 45 #[.val (.int x0), .val (.int x1), .val (.int x2), .val .null, .val (.ref x_106), .val (.ref x_113), .unset, .unset, .unset] [(.int (x2 &&& (2 : Int32)))])) _
        refine XS.ifNo X113.here hx rfl (hb hby at_45) rfl ((if0 _ _).trans (feq hc116).1) ?_
        refine XS.iloadN X113.here hx rfl (hb hby at_48) rfl ?_
        refine XS.bipush X113.here hx rfl (hb hby at_49) ?_
        refine XS.iushr X113.here hx rfl (hb hby at_51) rfl ?_
        show Steps pg.tables ev below (T113.setTop (mkF mi 52 #[.val (.int x0), .val (.int x1), .val (.int x2), .val .null, .val (.ref x_106), .val (.ref x_113), .unset, .unset, .unset] [(.int ((x1.toUInt32 >>> ((24 : Int32) &&& 31).toUInt32).toInt32))])) _
        refine st176 _ ?_
        exact kk)
      have pre178 : ∀ tt, Steps pg.tables ev below (T176.setTop (mkF mi 55 #[.val (.int x0), .val (.int x1), .val (.int x2), .val .null, .val (.ref x_106), .val (.ref x_113), .unset, .unset, .unset] [(.int cv)])) tt → Steps pg.tables ev below (s₁.setTop (entryFrame mi #[(.int x0), (.int x1), (.int x2)] maxLocals)) tt := fun tt kk => pre177 tt (by rw [← he_cv]; exact kk)
      have o_cv : ¬ (cv < (0 : Int32)) ∧ ¬ ((255 : Int32) < cv) ∧ ¬ (cv = (47 : Int32)) ∧ ¬ (cv = (33 : Int32)) := he_cv ▸ own_chB _
      have z_cv : ¬ (cv < (0 : Int32)) := o_cv.1
      have y_cv : ¬ ((255 : Int32) < cv) := o_cv.2.1
      have s47_cv : ¬ ((cv.toInt8.toInt32) = (47 : Int32)) := own_ch_byte z_cv y_cv (by decide) o_cv.2.2.1
      have s33_cv : ¬ ((cv.toInt8.toInt32) = (33 : Int32)) := own_ch_byte z_cv y_cv (by decide) o_cv.2.2.2
      obtain ⟨v179, _, ⟨T179, L179, k179, n179⟩, -, X179, ⟨Lc179, hQ179, l179, y179, z179⟩, st179⟩ := Jvm.LawKit.callS X176 hx (y := mn4) hown (mvT hZ (wd4 hw)) (mvT hZ (wd5 hw)) (mvT hZ (wd6 hw)) (mvT hZ (wd7 hw)) (by decide) (backOf (W := 0) (rm_vof la Z a0 hw [] cv zc T113.heap n0 O175 D0_ (y_cv : ¬ ((255 : Int32) < cv)) (z_cv : ¬ (cv < (0 : Int32))) (hzc : ¬ (zc = (0 : Int32)))) hZ (wd7 hw) (wd6 hw) (by decide) (by decide)) (g := (mkF mi 55 #[.val (.int x0), .val (.int x1), .val (.int x2), .val .null, .val (.ref x_106), .val (.ref x_113), .unset, .unset, .unset] [(.int cv)])) rfl (by rw [hml]; rfl) (argsL := [(.int cv)]) (rest := []) (lenOf pd_21 rfl) rfl (by show 2 * 0 + _ ≤ _; exact Nat.le_of_eq rfl) (hb hby at_55) (fun _ _ => ⟨rfl, ek176, (by decide : 4 + 2 ≤ _), (by decide : 10 + 5 ≤ _)⟩)
      dsimp only [Pt.U, Pt.locs, Pt.cells, Pt.slots] at X179 l179 y179 z179 st179 hQ179
      subst l179 y179 z179
      obtain ⟨x_179, t_179, rfl, Nq179, Kq179, fr_x_179, fr_t_179, r179_0⟩ := hQ179
      have N179 := Fr.app N176 Nq179
      have c180 := CHr.keep Kq179 sf0 C115.1
      have C181 := CHr.trans C115 c180
      obtain ⟨T182, h182, X182, e182, E182, A182, D182, -, st182⟩ := newO X179 hx hZ hown (wd30 hw) (wd31 hw) (wd32 hw) rfl (g := (mkF mi 64 #[.val (.int x0), .val (.int x1), .val (.int x2), .val .null, .val (.ref x_106), .val (.ref x_113), .val (.ref x_179), .unset, .unset] [])) rfl (hb hby at_64) (by decide) (by decide)
      obtain ⟨b182, q182⟩ : ∃ z, z = T179.heap.size := ⟨_, rfl⟩
      rw [← q182] at A182 D182 st182
      have c183 := CHr.ext E182 C181.1
      have C184 := CHr.trans C181 c183
      have f185 : Fld Z h182 b182 "com/example/beanloft/beanloft/naming/GlobalName" "appName" "Ljava/lang/String;" .null := D182 (Or.inr (wd100 hw)) (ty := (.object "java/lang/String")) (by decide)
      have f186 : Fld Z h182 b182 "com/example/beanloft/beanloft/naming/GlobalName" "moduleName" "Ljava/lang/String;" .null := D182 (Or.inr (wd102 hw)) (ty := (.object "java/lang/String")) (by decide)
      have f187 : Fld Z h182 b182 "com/example/beanloft/beanloft/naming/GlobalName" "beanName" "Ljava/lang/String;" .null := D182 (Or.inr (wd104 hw)) (ty := (.object "java/lang/String")) (by decide)
      have f188 : Fld Z h182 b182 "com/example/beanloft/beanloft/naming/GlobalName" "viewName" "Ljava/lang/String;" .null := D182 (Or.inr (wd106 hw)) (ty := (.object "java/lang/String")) (by decide)
      have O189 : Old Z n0 h182 := ((O175.keep Kq179 all0).ext E182)
      have f190 : LStr Z h182 x_106 t_106 ([cm] : List Int32) := (((r106_0.keep Kq113 nin0 nin0).keep Kq179 nin0 nin0).ext E182)
      have f191 : LStr Z h182 x_113 t_113 ([cb] : List Int32) := ((r113_0.keep Kq179 nin0 nin0).ext E182)
      have f192 : LStr Z h182 x_179 t_179 ([cv] : List Int32) := (r179_0.ext E182)
      have O193 : Old Z n0 T179.heap := (O175.keep Kq179 all0)
      have g_b182 : n0 ≤ b182 := Nat.le_trans (Nat.le_trans (Nat.le_of_eq O193.1.symm) O193.2.1) (Nat.le_of_eq q182.symm)
      have ne_x_106_b182 : x_106 ≠ b182 := Nat.ne_of_lt (Nat.lt_of_lt_of_le r106_0.lt (Nat.le_trans (Nat.le_trans Kq113.1 Kq179.1) (Nat.le_of_eq q182.symm)))
      have ne_t_106_b182 : t_106 ≠ b182 := Nat.ne_of_lt (Nat.lt_of_lt_of_le r106_0.ltt (Nat.le_trans (Nat.le_trans Kq113.1 Kq179.1) (Nat.le_of_eq q182.symm)))
      have ne_x_113_b182 : x_113 ≠ b182 := Nat.ne_of_lt (Nat.lt_of_lt_of_le r113_0.lt (Nat.le_trans Kq179.1 (Nat.le_of_eq q182.symm)))
      have ne_t_113_b182 : t_113 ≠ b182 := Nat.ne_of_lt (Nat.lt_of_lt_of_le r113_0.ltt (Nat.le_trans Kq179.1 (Nat.le_of_eq q182.symm)))
      have ne_x_179_b182 : x_179 ≠ b182 := Nat.ne_of_lt (Nat.lt_of_lt_of_le r179_0.lt (Nat.le_trans (Nat.le_refl _) (Nat.le_of_eq q182.symm)))
      have ne_t_179_b182 : t_179 ≠ b182 := Nat.ne_of_lt (Nat.lt_of_lt_of_le r179_0.ltt (Nat.le_trans (Nat.le_refl _) (Nat.le_of_eq q182.symm)))
      have pre195 : ∀ tt, Steps pg.tables ev below (T182.setTop (mkF mi 75 #[.val (.int x0), .val (.int x1), .val (.int x2), .val .null, .val (.ref x_106), .val (.ref x_113), .val (.ref x_179), .unset, .unset] [(.ref x_179), (.ref x_113), (.ref x_106), .null, (.ref b182), (.ref b182)])) tt → Steps pg.tables ev below (s₁.setTop (entryFrame mi #[(.int x0), (.int x1), (.int x2)] maxLocals)) tt := fun tt kk => pre178 _ (by
        show Steps pg.tables ev below (T176.setTop (mkF mi 55 #[.val (.int x0), .val (.int x1), .val (.int x2), .val .null, .val (.ref x_106), .val (.ref x_113), .unset, .unset, .unset] [(.int cv)])) _
        refine st179 _ ?_
        show Steps pg.tables ev below (T179.setTop (mkF mi 58 #[.val (.int x0), .val (.int x1), .val (.int x2), .val .null, .val (.ref x_106), .val (.ref x_113), .unset, .unset, .unset] [(.ref x_179)])) _
        refine XS.goto X179.here hx rfl (pc0 := 58) (pc' := 62) rfl (hb hby at_58) (by decide) (by decide) ?_
        refine XS.astore X179.here hx rfl (hb hby at_62) rfl rfl (l' := #[.val (.int x0), .val (.int x1), .val (.int x2), .val .null, .val (.ref x_106), .val (.ref x_113), .val (.ref x_179), .unset, .unset]) rfl ?_
        show Steps pg.tables ev below (T179.setTop (mkF mi 64 #[.val (.int x0), .val (.int x1), .val (.int x2), .val .null, .val (.ref x_106), .val (.ref x_113), .val (.ref x_179), .unset, .unset] [])) _
        refine st182 _ ?_
        show Steps pg.tables ev below (T182.setTop (mkF mi 67 #[.val (.int x0), .val (.int x1), .val (.int x2), .val .null, .val (.ref x_106), .val (.ref x_113), .val (.ref x_179), .unset, .unset] [(.ref b182)])) _
        refine XS.dup X182.here hx rfl (hb hby at_67) rfl rfl ?_
        refine XS.aloadN X182.here hx rfl (hb hby at_68) rfl rfl ?_
        refine XS.aload X182.here hx rfl (hb hby at_69) rfl rfl ?_
        refine XS.aload X182.here hx rfl (hb hby at_71) rfl rfl ?_
        refine XS.aload X182.here hx rfl (hb hby at_73) rfl rfl ?_
        exact kk)
      obtain ⟨v194, _, ⟨T194, L194, k194, n194⟩, -, X194, s194, gr194, ⟨Lc194, hQ194, l194, y194, z194, c194⟩, st194⟩ := X182.specialBackS hx (y := mn17) rfl hown (mvT hZ (wd33 hw)) (mvT hZ (wd34 hw)) (mvT hZ (wd35 hw)) (by decide) (backOfSH (W := 1) (rm_gin0111 la Z a0 hw [] b182 x_106 t_106 cm x_113 t_113 cb x_179 t_179 cv zc h182 n0 O189 A182 f185 f186 f187 f188 f190 f191 f192 D0_ g_b182 ne_x_106_b182 ne_t_106_b182 ne_x_113_b182 ne_t_113_b182 ne_x_179_b182 ne_t_179_b182 (s47_cm : ¬ ((cm.toInt8.toInt32) = (47 : Int32))) (s33_cm : ¬ ((cm.toInt8.toInt32) = (33 : Int32))) (s47_cb : ¬ ((cb.toInt8.toInt32) = (47 : Int32))) (s33_cb : ¬ ((cb.toInt8.toInt32) = (33 : Int32))) (s47_cv : ¬ ((cv.toInt8.toInt32) = (47 : Int32))) (s33_cv : ¬ ((cv.toInt8.toInt32) = (33 : Int32))) (hzc : ¬ (zc = (0 : Int32)))) hZ (wd35 hw) (wd32 hw) (by decide) (by decide) hEL C184.1) (g := (mkF mi 75 #[.val (.int x0), .val (.int x1), .val (.int x2), .val .null, .val (.ref x_106), .val (.ref x_113), .val (.ref x_179), .unset, .unset] [(.ref x_179), (.ref x_113), (.ref x_106), .null, (.ref b182), (.ref b182)])) rfl (by rw [hml]; rfl) (Steps.refl _) (a := b182) (argsL := [.null, (.ref x_106), (.ref x_113), (.ref x_179)]) (rest := [(.ref b182)]) (lenOf pd_12 rfl) rfl (by show 2 * 0 + _ ≤ _; exact Nat.le_of_eq rfl) (hb hby at_75) (fun _ _ => ⟨rfl, e182, (by decide : 7 + 16 ≤ _), (by decide : 19 + 292 ≤ _)⟩)
      dsimp only [Pt.U, Pt.locs, Pt.cells, Pt.slots] at X194 s194 gr194 l194 y194 z194 c194 st194 hQ194
      subst l194 y194 z194
      obtain ⟨X194, hS, hZ, hown⟩ := rebS hS (show _ ≤ T182.heap.size by rw [e182]; exact (Nat.le_trans hk (Nat.le_trans (Nat.le_trans (Nat.le_trans Kq106.1 Kq113.1) Kq179.1) E182.1))) X194 s194 gr194 hZ hown
      have hk : T194.heap.size ≤ T194.heap.size := Nat.le_refl _
      obtain ⟨rfl, Nq194, Kq194, r194_0, r194_1, r194_2, r194_3, r194_4⟩ := hQ194
      have N194 := Fr.app N179 Nq194
      have C196 := CHr.trans C184 c194
      have pre197 : ∀ tt, Steps pg.tables ev below (T194.setTop (mkF mi 83 #[.val (.int x0), .val (.int x1), .val (.int x2), .val .null, .val (.ref x_106), .val (.ref x_113), .val (.ref x_179), .val (.ref b182), .unset] [(.int x0), (.ref b182)])) tt → Steps pg.tables ev below (s₁.setTop (entryFrame mi #[(.int x0), (.int x1), (.int x2)] maxLocals)) tt := fun tt kk => pre195 _ (by
        show Steps pg.tables ev below (T182.setTop (mkF mi 75 #[.val (.int x0), .val (.int x1), .val (.int x2), .val .null, .val (.ref x_106), .val (.ref x_113), .val (.ref x_179), .unset, .unset] [(.ref x_179), (.ref x_113), (.ref x_106), .null, (.ref b182), (.ref b182)])) _
        refine st194.trans ?_
        show Steps pg.tables ev below (T194.setTop (mkF mi 78 #[.val (.int x0), .val (.int x1), .val (.int x2), .val .null, .val (.ref x_106), .val (.ref x_113), .val (.ref x_179), .unset, .unset] [(.ref b182)])) _
        refine XS.astore X194.here hx rfl (hb hby at_78) rfl rfl (l' := #[.val (.int x0), .val (.int x1), .val (.int x2), .val .null, .val (.ref x_106), .val (.ref x_113), .val (.ref x_179), .val (.ref b182), .unset]) rfl ?_
        refine XS.aload X194.here hx rfl (hb hby at_80) rfl rfl ?_
        refine XS.iloadN X194.here hx rfl (hb hby at_82) rfl ?_
        exact kk)
      by_cases hc198 : x0 = (1 : Int32)
      · have O199 : Old Z n0 T194.heap := (O189.keep Kq194 (allS g_b182 all0))
        have f200 : LStr Z T194.heap x_106 t_106 ([cm] : List Int32) := (f190.keep Kq194 (ninS ne_x_106_b182 nin0) (ninS ne_t_106_b182 nin0))
        have f201 : LStr Z T194.heap x_113 t_113 ([cb] : List Int32) := (f191.keep Kq194 (ninS ne_x_113_b182 nin0) (ninS ne_t_113_b182 nin0))
        obtain ⟨cq202, kq202, q202a, q202b, q202c⟩ := isOf hZ rfl r194_0
        obtain ⟨v202, _, ⟨T202, L202, k202, n202⟩, -, X202, s202, gr202, ⟨Lc202, hQ202, l202, y202, z202, c202⟩, st202⟩ := X194.virtualBackS hx (y := mn35) (z := mn35) hown (mvT hZ (wd107 hw)) (mvT hZ (wd108 hw)) (notFace_of_selects (args := #[]) (mvT hZ (wd110 hw))) (mvT hZ (wd110 hw)) (mvT hZ (wd109 hw)) (by decide) (backOfSH (W := 0) (rm_fo01 la Z a0 hw [] b182 x0 x_106 t_106 cm x_113 t_113 cb zc em T194.heap n0 O199 r194_0 r194_1 r194_2 r194_3 f200 f201 D0_ D1_ (s47_cm : ¬ ((cm.toInt8.toInt32) = (47 : Int32))) (s33_cm : ¬ ((cm.toInt8.toInt32) = (33 : Int32))) (s47_cb : ¬ ((cb.toInt8.toInt32) = (47 : Int32))) (s33_cb : ¬ ((cb.toInt8.toInt32) = (33 : Int32))) (hzc : ¬ (zc = (0 : Int32))) (hc198 : x0 = (1 : Int32))) hZ (wd111 hw) (wd32 hw) (by decide) (by decide) hEL C196.1) q202a q202c (g := (mkF mi 83 #[.val (.int x0), .val (.int x1), .val (.int x2), .val .null, .val (.ref x_106), .val (.ref x_113), .val (.ref x_179), .val (.ref b182), .unset] [(.int x0), (.ref b182)])) rfl (by rw [hml]; rfl) (Steps.refl _) (argsL := [(.int x0)]) (rest := []) (lenOf pd_22 rfl) rfl (by show 2 * 0 + _ ≤ _; exact Nat.le_of_eq rfl) (hb hby at_83) (fun _ _ => ⟨rfl, rfl, (by decide : 23 + 18 ≤ _), (by decide : 311 + 298 ≤ _)⟩)
        dsimp only [Pt.U, Pt.locs, Pt.cells, Pt.slots] at X202 s202 gr202 l202 y202 z202 c202 st202 hQ202
        subst l202 y202 z202
        obtain ⟨X202, hS, hZ, hown⟩ := rebS hS (show _ ≤ T194.heap.size from hk) X202 s202 gr202 hZ hown
        have hk : T202.heap.size ≤ T202.heap.size := Nat.le_refl _
        obtain ⟨l__202, g2_202, rfl, Nq202, Kq202, fr_l__202, fr_g2_202, r202_0, r202_1, r202_2, r202_3, r202_4, r202_5, r202_6, r202_7⟩ := hQ202
        have N202 := Fr.app N194 Nq202
        have C203 := CHr.trans C196 c202
        have O204 : Old Z n0 T202.heap := (O199.keep Kq202 all0)
        have ne_em_g2_202 : em ≠ g2_202 := Nat.ne_of_lt (Nat.lt_of_lt_of_le D2_.lt (Nat.le_trans O199.2.1 fr_g2_202))
        obtain ⟨cq205, kq205, q205a, q205b, q205c⟩ := isOf hZ rfl r202_0
        obtain ⟨v205, _, ⟨T205, L205, k205, n205⟩, -, X205, ⟨Lc205, hQ205, l205, y205, z205⟩, st205⟩ := X202.interfaceBack hx (xi := mn36) (y := mn26) hown (mvT hZ (wd151 hw)) (mvT hZ (wd152 hw)) (mvT hZ (wd153 hw)) (mvT hZ (wd154 hw)) (mvT hZ (wd155 hw)) (mvT hZ (wd156 hw)) (mvT hZ (wd157 hw)) (mvT hZ (wd158 hw)) (by decide) (backOf (W := 0) (rm_sz2 la Z a0 hw [] l__202 g2_202 em T202.heap n0 O204 r202_2 D1_ (Ne.symm ne_em_g2_202)) hZ (wd159 hw) (wd118 hw) (by decide) (by decide)) q205a q205b q205c (g := (mkF mi 95 #[.val (.int x0), .val (.int x1), .val (.int x2), .val .null, .val (.ref x_106), .val (.ref x_113), .val (.ref x_179), .val (.ref b182), .val (.ref l__202)] [(.ref l__202)])) rfl (by rw [hml]; rfl) (Steps.refl _) (argsL := []) (rest := []) (lenOf pd_23 rfl) rfl (by show 2 * 0 + _ ≤ _; exact Nat.le_of_eq rfl) (hb hby at_95) (fun _ _ => ⟨rfl, rfl, (by decide : 41 + 0 ≤ _), (by decide : 609 + 0 ≤ _)⟩)
        dsimp only [Pt.U, Pt.locs, Pt.cells, Pt.slots] at X205 l205 y205 z205 st205 hQ205
        subst l205 y205 z205
        obtain ⟨rfl, Nq205, ek205⟩ := hQ205
        have N205 := Fr.app N202 Nq205
        obtain ⟨cq206, kq206, q206a, q206b, q206c⟩ := isOf hZ ek205 r202_0
        obtain ⟨v206, _, ⟨T206, L206, k206, n206⟩, -, X206, ⟨Lc206, hQ206, l206, y206, z206⟩, st206⟩ := X205.interfaceBack hx (xi := mn37) (y := mn27) hown (mvT hZ (wd160 hw)) (mvT hZ (wd161 hw)) (mvT hZ (wd162 hw)) (mvT hZ (wd163 hw)) (mvT hZ (wd164 hw)) (mvT hZ (wd165 hw)) (mvT hZ (wd166 hw)) (mvT hZ (wd158 hw)) (by decide) (backOf (W := 0) (rm_get0 la Z a0 hw [] l__202 b182 T202.heap n0 O204 r202_1) hZ (wd167 hw) (wd118 hw) (by decide) (by decide)) q206a q206b q206c (g := (mkF mi 107 #[.val (.int x0), .val (.int x1), .val (.int x2), .val .null, .val (.ref x_106), .val (.ref x_113), .val (.ref x_179), .val (.ref b182), .val (.ref l__202)] [(.int (0 : Int32)), (.ref l__202)])) rfl (by rw [hml]; rfl) (Steps.refl _) (argsL := [(.int (0 : Int32))]) (rest := []) (lenOf pd_24 rfl) rfl (by show 2 * 0 + _ ≤ _; exact Nat.le_of_eq rfl) (hb hby at_107) (fun _ _ => ⟨rfl, ek205, (by decide : 41 + 0 ≤ _), (by decide : 609 + 0 ≤ _)⟩)
        dsimp only [Pt.U, Pt.locs, Pt.cells, Pt.slots] at X206 l206 y206 z206 st206 hQ206
        subst l206 y206 z206
        obtain ⟨rfl, Nq206, ek206⟩ := hQ206
        have N206 := Fr.app N205 Nq206
        have f207 : Exa Z T202.heap b182 "com/example/beanloft/beanloft/naming/GlobalName" := (r194_0.keep Kq202)
        obtain ⟨T208, X208, e208, st208⟩ := castY X206 hx hZ hown (wd30 hw) ek206 (Ins.self f207) (g := (mkF mi 112 #[.val (.int x0), .val (.int x1), .val (.int x2), .val .null, .val (.ref x_106), .val (.ref x_113), .val (.ref x_179), .val (.ref b182), .val (.ref l__202)] [(.ref b182)])) rfl rfl (hb hby at_112)
        have f209 : Fld Z T202.heap b182 "com/example/beanloft/beanloft/naming/GlobalName" "appName" "Ljava/lang/String;" .null := (r194_1.keep Kq202 nin0)
        have f210 : Fld Z T202.heap b182 "com/example/beanloft/beanloft/naming/GlobalName" "moduleName" "Ljava/lang/String;" (.ref x_106) := (r194_2.keep Kq202 nin0)
        have f211 : Fld Z T202.heap b182 "com/example/beanloft/beanloft/naming/GlobalName" "beanName" "Ljava/lang/String;" (.ref x_113) := (r194_3.keep Kq202 nin0)
        have f212 : Fld Z T202.heap b182 "com/example/beanloft/beanloft/naming/GlobalName" "viewName" "Ljava/lang/String;" (.ref x_179) := (r194_4.keep Kq202 nin0)
        have f213 : LStr Z T202.heap x_106 t_106 ([cm] : List Int32) := (f200.keep Kq202 nin0 nin0)
        have f214 : Exa Z T202.heap x_106 "java/lang/String" := (f213).1
        have f215 : LStr Z T202.heap x_113 t_113 ([cb] : List Int32) := (f201.keep Kq202 nin0 nin0)
        have f216 : Exa Z T202.heap x_113 "java/lang/String" := (f215).1
        have f217 : LStr Z T202.heap x_179 t_179 ([cv] : List Int32) := ((f192.keep Kq194 (ninS ne_x_179_b182 nin0) (ninS ne_t_179_b182 nin0)).keep Kq202 nin0 nin0)
        have f218 : Exa Z T202.heap x_179 "java/lang/String" := (f217).1
        obtain ⟨v219, _, ⟨T219, L219, k219, n219⟩, -, X219, ⟨Lc219, hQ219, l219, y219, z219⟩, st219⟩ := Jvm.LawKit.callS X208 hx (y := mn34) hown (mvT hZ (wd169 hw)) (mvT hZ (wd170 hw)) (mvT hZ (wd2 hw)) (mvT hZ (wd171 hw)) (by decide) (backOf (W := 0) (rm_same01 la Z a0 hw [] b182 x_106 x_113 x_179 T202.heap n0 O204 f207 f209 f210 f211 f212 f214 f216 f218) hZ (wd171 hw) (wd2 hw) (by decide) (by decide)) (g := (mkF mi 122 #[.val (.int x0), .val (.int x1), .val (.int x2), .val .null, .val (.ref x_106), .val (.ref x_113), .val (.ref x_179), .val (.ref b182), .val (.ref l__202)] [(.ref x_179), (.ref x_113), (.ref x_106), .null, (.ref b182)])) rfl (by rw [hml]; rfl) (argsL := [(.ref b182), .null, (.ref x_106), (.ref x_113), (.ref x_179)]) (rest := []) (lenOf pd_25 rfl) rfl (by show 2 * 0 + _ ≤ _; exact Nat.le_of_eq rfl) (hb hby at_122) (fun _ _ => ⟨rfl, e208, (by decide : 41 + 0 ≤ _), (by decide : 609 + 0 ≤ _)⟩)
        dsimp only [Pt.U, Pt.locs, Pt.cells, Pt.slots] at X219 l219 y219 z219 st219 hQ219
        subst l219 y219 z219
        obtain ⟨rfl, Nq219, ek219⟩ := hQ219
        have N219 := Fr.app N206 Nq219
        obtain ⟨cq220, kq220, q220a, q220b, q220c⟩ := isOf hZ ek219 r202_0
        obtain ⟨v220, _, ⟨T220, L220, k220, n220⟩, -, X220, ⟨Lc220, hQ220, l220, y220, z220⟩, st220⟩ := X219.interfaceBack hx (xi := mn37) (y := mn27) hown (mvT hZ (wd160 hw)) (mvT hZ (wd161 hw)) (mvT hZ (wd162 hw)) (mvT hZ (wd163 hw)) (mvT hZ (wd164 hw)) (mvT hZ (wd165 hw)) (mvT hZ (wd166 hw)) (mvT hZ (wd158 hw)) (by decide) (backOf (W := 0) (rm_get1 la Z a0 hw [] l__202 g2_202 em T202.heap n0 O204 r202_2 D1_ (Ne.symm ne_em_g2_202)) hZ (wd167 hw) (wd118 hw) (by decide) (by decide)) q220a q220b q220c (g := (mkF mi 131 #[.val (.int x0), .val (.int x1), .val (.int x2), .val .null, .val (.ref x_106), .val (.ref x_113), .val (.ref x_179), .val (.ref b182), .val (.ref l__202)] [(.int (1 : Int32)), (.ref l__202)])) rfl (by rw [hml]; rfl) (Steps.refl _) (argsL := [(.int (1 : Int32))]) (rest := []) (lenOf pd_24 rfl) rfl (by show 2 * 0 + _ ≤ _; exact Nat.le_of_eq rfl) (hb hby at_131) (fun _ _ => ⟨rfl, ek219, (by decide : 41 + 0 ≤ _), (by decide : 609 + 0 ≤ _)⟩)
        dsimp only [Pt.U, Pt.locs, Pt.cells, Pt.slots] at X220 l220 y220 z220 st220 hQ220
        subst l220 y220 z220
        obtain ⟨rfl, Nq220, ek220⟩ := hQ220
        have N220 := Fr.app N219 Nq220
        obtain ⟨T221, X221, e221, st221⟩ := castY X220 hx hZ hown (wd30 hw) ek220 (Ins.self r202_3) (g := (mkF mi 136 #[.val (.int x0), .val (.int x1), .val (.int x2), .val .null, .val (.ref x_106), .val (.ref x_113), .val (.ref x_179), .val (.ref b182), .val (.ref l__202)] [(.ref g2_202)])) rfl rfl (hb hby at_136)
        obtain ⟨v222, _, ⟨T222, L222, k222, n222⟩, -, X222, ⟨Lc222, hQ222, l222, y222, z222⟩, st222⟩ := Jvm.LawKit.callS X221 hx (y := mn34) hown (mvT hZ (wd169 hw)) (mvT hZ (wd170 hw)) (mvT hZ (wd2 hw)) (mvT hZ (wd171 hw)) (by decide) (backOf (W := 0) (rm_same00 la Z a0 hw [] g2_202 x_106 x_113 T202.heap n0 O204 r202_3 r202_4 r202_5 r202_6 r202_7 f214 f216) hZ (wd171 hw) (wd2 hw) (by decide) (by decide)) (g := (mkF mi 145 #[.val (.int x0), .val (.int x1), .val (.int x2), .val .null, .val (.ref x_106), .val (.ref x_113), .val (.ref x_179), .val (.ref b182), .val (.ref l__202)] [.null, (.ref x_113), (.ref x_106), .null, (.ref g2_202)])) rfl (by rw [hml]; rfl) (argsL := [(.ref g2_202), .null, (.ref x_106), (.ref x_113), .null]) (rest := []) (lenOf pd_25 rfl) rfl (by show 2 * 0 + _ ≤ _; exact Nat.le_of_eq rfl) (hb hby at_145) (fun _ _ => ⟨rfl, e221, (by decide : 41 + 0 ≤ _), (by decide : 609 + 0 ≤ _)⟩)
        dsimp only [Pt.U, Pt.locs, Pt.cells, Pt.slots] at X222 l222 y222 z222 st222 hQ222
        subst l222 y222 z222
        obtain ⟨rfl, Nq222, ek222⟩ := hQ222
        have N222 := Fr.app N220 Nq222
        obtain ⟨fs, hr, hrun, hended, hWe⟩ := X222.leaveW hS (show _ ≤ T222.heap.size by rw [ek222]; exact hk) (v := some (.int (1 : Int32))) (fun hq => by rw [Bd.returns] at hq; cases hq)
        refine ⟨_, _, pre197 _ ?_, hrun, hended, _, _, rfl, ?_, ?_, hWe.1, hWe.2.1, hWe.2.2.1, hWe.2.2.2.mono (by decide) (by decide)⟩
        · show Steps pg.tables ev below (T194.setTop (mkF mi 83 #[.val (.int x0), .val (.int x1), .val (.int x2), .val .null, .val (.ref x_106), .val (.ref x_113), .val (.ref x_179), .val (.ref b182), .unset] [(.int x0), (.ref b182)])) _
          refine st202.trans ?_
          show Steps pg.tables ev below (T202.setTop (mkF mi 86 #[.val (.int x0), .val (.int x1), .val (.int x2), .val .null, .val (.ref x_106), .val (.ref x_113), .val (.ref x_179), .val (.ref b182), .unset] [(.ref l__202)])) _
          refine XS.astore X202.here hx rfl (hb hby at_86) rfl rfl (l' := #[.val (.int x0), .val (.int x1), .val (.int x2), .val .null, .val (.ref x_106), .val (.ref x_113), .val (.ref x_179), .val (.ref b182), .val (.ref l__202)]) rfl ?_
          refine XS.iloadN X202.here hx rfl (hb hby at_88) rfl ?_
          refine XS.iconst X202.here hx rfl (hb hby at_89) ?_
          refine XS.icmpNo X202.here hx rfl (hb hby at_90) rfl (teq hc198).2 ?_
          refine XS.aload X202.here hx rfl (hb hby at_93) rfl rfl ?_
          show Steps pg.tables ev below (T202.setTop (mkF mi 95 #[.val (.int x0), .val (.int x1), .val (.int x2), .val .null, .val (.ref x_106), .val (.ref x_113), .val (.ref x_179), .val (.ref b182), .val (.ref l__202)] [(.ref l__202)])) _
          refine st205.trans ?_
          show Steps pg.tables ev below (T205.setTop (mkF mi 100 #[.val (.int x0), .val (.int x1), .val (.int x2), .val .null, .val (.ref x_106), .val (.ref x_113), .val (.ref x_179), .val (.ref b182), .val (.ref l__202)] [(.int (2 : Int32))])) _
          refine XS.iconst X205.here hx rfl (hb hby at_100) ?_
          refine XS.icmpNo X205.here hx rfl (hb hby at_101) rfl (teq (rfl : (2 : Int32) = (2 : Int32))).2 ?_
          refine XS.aload X205.here hx rfl (hb hby at_104) rfl rfl ?_
          refine XS.iconst X205.here hx rfl (hb hby at_106) ?_
          show Steps pg.tables ev below (T205.setTop (mkF mi 107 #[.val (.int x0), .val (.int x1), .val (.int x2), .val .null, .val (.ref x_106), .val (.ref x_113), .val (.ref x_179), .val (.ref b182), .val (.ref l__202)] [(.int (0 : Int32)), (.ref l__202)])) _
          refine st206.trans ?_
          show Steps pg.tables ev below (T206.setTop (mkF mi 112 #[.val (.int x0), .val (.int x1), .val (.int x2), .val .null, .val (.ref x_106), .val (.ref x_113), .val (.ref x_179), .val (.ref b182), .val (.ref l__202)] [(.ref b182)])) _
          refine st208 _ ?_
          show Steps pg.tables ev below (T208.setTop (mkF mi 115 #[.val (.int x0), .val (.int x1), .val (.int x2), .val .null, .val (.ref x_106), .val (.ref x_113), .val (.ref x_179), .val (.ref b182), .val (.ref l__202)] [(.ref b182)])) _
          refine XS.aloadN X208.here hx rfl (hb hby at_115) rfl rfl ?_
          refine XS.aload X208.here hx rfl (hb hby at_116) rfl rfl ?_
          refine XS.aload X208.here hx rfl (hb hby at_118) rfl rfl ?_
          refine XS.aload X208.here hx rfl (hb hby at_120) rfl rfl ?_
          show Steps pg.tables ev below (T208.setTop (mkF mi 122 #[.val (.int x0), .val (.int x1), .val (.int x2), .val .null, .val (.ref x_106), .val (.ref x_113), .val (.ref x_179), .val (.ref b182), .val (.ref l__202)] [(.ref x_179), (.ref x_113), (.ref x_106), .null, (.ref b182)])) _
          refine st219 _ ?_
          show Steps pg.tables ev below (T219.setTop (mkF mi 125 #[.val (.int x0), .val (.int x1), .val (.int x2), .val .null, .val (.ref x_106), .val (.ref x_113), .val (.ref x_179), .val (.ref b182), .val (.ref l__202)] [(.int (1 : Int32))])) _
          refine XS.ifNo X219.here hx rfl (hb hby at_125) rfl ((if0 _ _).trans (feq (by decide : ¬ ((1 : Int32) = (0 : Int32)))).1) ?_
          refine XS.aload X219.here hx rfl (hb hby at_128) rfl rfl ?_
          refine XS.iconst X219.here hx rfl (hb hby at_130) ?_
          show Steps pg.tables ev below (T219.setTop (mkF mi 131 #[.val (.int x0), .val (.int x1), .val (.int x2), .val .null, .val (.ref x_106), .val (.ref x_113), .val (.ref x_179), .val (.ref b182), .val (.ref l__202)] [(.int (1 : Int32)), (.ref l__202)])) _
          refine st220.trans ?_
          show Steps pg.tables ev below (T220.setTop (mkF mi 136 #[.val (.int x0), .val (.int x1), .val (.int x2), .val .null, .val (.ref x_106), .val (.ref x_113), .val (.ref x_179), .val (.ref b182), .val (.ref l__202)] [(.ref g2_202)])) _
          refine st221 _ ?_
          show Steps pg.tables ev below (T221.setTop (mkF mi 139 #[.val (.int x0), .val (.int x1), .val (.int x2), .val .null, .val (.ref x_106), .val (.ref x_113), .val (.ref x_179), .val (.ref b182), .val (.ref l__202)] [(.ref g2_202)])) _
          refine XS.aloadN X221.here hx rfl (hb hby at_139) rfl rfl ?_
          refine XS.aload X221.here hx rfl (hb hby at_140) rfl rfl ?_
          refine XS.aload X221.here hx rfl (hb hby at_142) rfl rfl ?_
          refine XS.aconstNull X221.here hx rfl (hb hby at_144) ?_
          show Steps pg.tables ev below (T221.setTop (mkF mi 145 #[.val (.int x0), .val (.int x1), .val (.int x2), .val .null, .val (.ref x_106), .val (.ref x_113), .val (.ref x_179), .val (.ref b182), .val (.ref l__202)] [.null, (.ref x_113), (.ref x_106), .null, (.ref g2_202)])) _
          refine st222 _ ?_
          show Steps pg.tables ev below (T222.setTop (mkF mi 148 #[.val (.int x0), .val (.int x1), .val (.int x2), .val .null, .val (.ref x_106), .val (.ref x_113), .val (.ref x_179), .val (.ref b182), .val (.ref l__202)] [(.int (1 : Int32))])) _
          refine XS.ifNo X222.here hx rfl (hb hby at_148) rfl ((if0 _ _).trans (feq (by decide : ¬ ((1 : Int32) = (0 : Int32)))).1) ?_
          refine XS.iconst X222.here hx rfl (hb hby at_151) ?_
          refine XS.goto X222.here hx rfl (pc0 := 152) (pc' := 156) rfl (hb hby at_152) (by decide) (by decide) ?_
          show Steps pg.tables ev below (T222.setTop (mkF mi 156 #[.val (.int x0), .val (.int x1), .val (.int x2), .val .null, .val (.ref x_106), .val (.ref x_113), .val (.ref x_179), .val (.ref b182), .val (.ref l__202)] [(.int (1 : Int32))])) _
          exact retN X222 hx (t := .boolean) Bd.returns (by simp) (hb hby at_156) hr
        · show Q_law Z x0 x1 x2 zc em hE n0 _ T222.heap _
          rw [ek222]
          exact ⟨rfl, N222⟩
        · show CHr Z ELs sb.vm sb.heap T222.vm T222.heap
          rw [hh, ek222]
          exact CHr.trans C203 (CHv.at X222 hZ hEL C203.1)
      · have O223 : Old Z n0 T194.heap := (O189.keep Kq194 (allS g_b182 all0))
        have f224 : LStr Z T194.heap x_106 t_106 ([cm] : List Int32) := (f190.keep Kq194 (ninS ne_x_106_b182 nin0) (ninS ne_t_106_b182 nin0))
        have f225 : LStr Z T194.heap x_113 t_113 ([cb] : List Int32) := (f191.keep Kq194 (ninS ne_x_113_b182 nin0) (ninS ne_t_113_b182 nin0))
        obtain ⟨cq226, kq226, q226a, q226b, q226c⟩ := isOf hZ rfl r194_0
        obtain ⟨v226, _, ⟨T226, L226, k226, n226⟩, -, X226, s226, gr226, ⟨Lc226, hQ226, l226, y226, z226, c226⟩, st226⟩ := X194.virtualBackS hx (y := mn35) (z := mn35) hown (mvT hZ (wd107 hw)) (mvT hZ (wd108 hw)) (notFace_of_selects (args := #[]) (mvT hZ (wd110 hw))) (mvT hZ (wd110 hw)) (mvT hZ (wd109 hw)) (by decide) (backOfSH (W := 0) (rm_fo00 la Z a0 hw [] b182 x0 x_106 t_106 cm x_113 t_113 cb zc em T194.heap n0 O223 r194_0 r194_1 r194_2 r194_3 f224 f225 D0_ D1_ (hzc : ¬ (zc = (0 : Int32))) (hc198 : ¬ (x0 = (1 : Int32)))) hZ (wd111 hw) (wd32 hw) (by decide) (by decide) hEL C196.1) q226a q226c (g := (mkF mi 83 #[.val (.int x0), .val (.int x1), .val (.int x2), .val .null, .val (.ref x_106), .val (.ref x_113), .val (.ref x_179), .val (.ref b182), .unset] [(.int x0), (.ref b182)])) rfl (by rw [hml]; rfl) (Steps.refl _) (argsL := [(.int x0)]) (rest := []) (lenOf pd_22 rfl) rfl (by show 2 * 0 + _ ≤ _; exact Nat.le_of_eq rfl) (hb hby at_83) (fun _ _ => ⟨rfl, rfl, (by decide : 23 + 1 ≤ _), (by decide : 311 + 2 ≤ _)⟩)
        dsimp only [Pt.U, Pt.locs, Pt.cells, Pt.slots] at X226 s226 gr226 l226 y226 z226 c226 st226 hQ226
        subst l226 y226 z226
        obtain ⟨X226, hS, hZ, hown⟩ := rebS hS (show _ ≤ T194.heap.size from hk) X226 s226 gr226 hZ hown
        have hk : T226.heap.size ≤ T226.heap.size := Nat.le_refl _
        obtain ⟨l__226, rfl, Nq226, Kq226, fr_l__226, r226_0, r226_1, r226_2⟩ := hQ226
        have N226 := Fr.app N194 Nq226
        have C227 := CHr.trans C196 c226
        have O228 : Old Z n0 T226.heap := (O223.keep Kq226 all0)
        obtain ⟨cq229, kq229, q229a, q229b, q229c⟩ := isOf hZ rfl r226_0
        obtain ⟨v229, _, ⟨T229, L229, k229, n229⟩, -, X229, ⟨Lc229, hQ229, l229, y229, z229⟩, st229⟩ := X226.interfaceBack hx (xi := mn36) (y := mn26) hown (mvT hZ (wd151 hw)) (mvT hZ (wd152 hw)) (mvT hZ (wd153 hw)) (mvT hZ (wd154 hw)) (mvT hZ (wd155 hw)) (mvT hZ (wd156 hw)) (mvT hZ (wd157 hw)) (mvT hZ (wd158 hw)) (by decide) (backOf (W := 0) (rm_sz1 la Z a0 hw [] l__226 em T226.heap n0 O228 r226_2 D1_) hZ (wd159 hw) (wd118 hw) (by decide) (by decide)) q229a q229b q229c (g := (mkF mi 159 #[.val (.int x0), .val (.int x1), .val (.int x2), .val .null, .val (.ref x_106), .val (.ref x_113), .val (.ref x_179), .val (.ref b182), .val (.ref l__226)] [(.ref l__226)])) rfl (by rw [hml]; rfl) (Steps.refl _) (argsL := []) (rest := []) (lenOf pd_23 rfl) rfl (by show 2 * 0 + _ ≤ _; exact Nat.le_of_eq rfl) (hb hby at_159) (fun _ _ => ⟨rfl, rfl, (by decide : 24 + 0 ≤ _), (by decide : 313 + 0 ≤ _)⟩)
        dsimp only [Pt.U, Pt.locs, Pt.cells, Pt.slots] at X229 l229 y229 z229 st229 hQ229
        subst l229 y229 z229
        obtain ⟨rfl, Nq229, ek229⟩ := hQ229
        have N229 := Fr.app N226 Nq229
        obtain ⟨cq230, kq230, q230a, q230b, q230c⟩ := isOf hZ ek229 r226_0
        obtain ⟨v230, _, ⟨T230, L230, k230, n230⟩, -, X230, ⟨Lc230, hQ230, l230, y230, z230⟩, st230⟩ := X229.interfaceBack hx (xi := mn37) (y := mn27) hown (mvT hZ (wd160 hw)) (mvT hZ (wd161 hw)) (mvT hZ (wd162 hw)) (mvT hZ (wd163 hw)) (mvT hZ (wd164 hw)) (mvT hZ (wd165 hw)) (mvT hZ (wd166 hw)) (mvT hZ (wd158 hw)) (by decide) (backOf (W := 0) (rm_get0 la Z a0 hw [] l__226 b182 T226.heap n0 O228 r226_1) hZ (wd167 hw) (wd118 hw) (by decide) (by decide)) q230a q230b q230c (g := (mkF mi 171 #[.val (.int x0), .val (.int x1), .val (.int x2), .val .null, .val (.ref x_106), .val (.ref x_113), .val (.ref x_179), .val (.ref b182), .val (.ref l__226)] [(.int (0 : Int32)), (.ref l__226)])) rfl (by rw [hml]; rfl) (Steps.refl _) (argsL := [(.int (0 : Int32))]) (rest := []) (lenOf pd_24 rfl) rfl (by show 2 * 0 + _ ≤ _; exact Nat.le_of_eq rfl) (hb hby at_171) (fun _ _ => ⟨rfl, ek229, (by decide : 24 + 0 ≤ _), (by decide : 313 + 0 ≤ _)⟩)
        dsimp only [Pt.U, Pt.locs, Pt.cells, Pt.slots] at X230 l230 y230 z230 st230 hQ230
        subst l230 y230 z230
        obtain ⟨rfl, Nq230, ek230⟩ := hQ230
        have N230 := Fr.app N229 Nq230
        have f231 : Exa Z T226.heap b182 "com/example/beanloft/beanloft/naming/GlobalName" := (r194_0.keep Kq226)
        obtain ⟨T232, X232, e232, st232⟩ := castY X230 hx hZ hown (wd30 hw) ek230 (Ins.self f231) (g := (mkF mi 176 #[.val (.int x0), .val (.int x1), .val (.int x2), .val .null, .val (.ref x_106), .val (.ref x_113), .val (.ref x_179), .val (.ref b182), .val (.ref l__226)] [(.ref b182)])) rfl rfl (hb hby at_176)
        have f233 : Fld Z T226.heap b182 "com/example/beanloft/beanloft/naming/GlobalName" "appName" "Ljava/lang/String;" .null := (r194_1.keep Kq226 nin0)
        have f234 : Fld Z T226.heap b182 "com/example/beanloft/beanloft/naming/GlobalName" "moduleName" "Ljava/lang/String;" (.ref x_106) := (r194_2.keep Kq226 nin0)
        have f235 : Fld Z T226.heap b182 "com/example/beanloft/beanloft/naming/GlobalName" "beanName" "Ljava/lang/String;" (.ref x_113) := (r194_3.keep Kq226 nin0)
        have f236 : Fld Z T226.heap b182 "com/example/beanloft/beanloft/naming/GlobalName" "viewName" "Ljava/lang/String;" (.ref x_179) := (r194_4.keep Kq226 nin0)
        have f237 : LStr Z T226.heap x_106 t_106 ([cm] : List Int32) := (f224.keep Kq226 nin0 nin0)
        have f238 : Exa Z T226.heap x_106 "java/lang/String" := (f237).1
        have f239 : LStr Z T226.heap x_113 t_113 ([cb] : List Int32) := (f225.keep Kq226 nin0 nin0)
        have f240 : Exa Z T226.heap x_113 "java/lang/String" := (f239).1
        have f241 : LStr Z T226.heap x_179 t_179 ([cv] : List Int32) := ((f192.keep Kq194 (ninS ne_x_179_b182 nin0) (ninS ne_t_179_b182 nin0)).keep Kq226 nin0 nin0)
        have f242 : Exa Z T226.heap x_179 "java/lang/String" := (f241).1
        obtain ⟨v243, _, ⟨T243, L243, k243, n243⟩, -, X243, ⟨Lc243, hQ243, l243, y243, z243⟩, st243⟩ := Jvm.LawKit.callS X232 hx (y := mn34) hown (mvT hZ (wd169 hw)) (mvT hZ (wd170 hw)) (mvT hZ (wd2 hw)) (mvT hZ (wd171 hw)) (by decide) (backOf (W := 0) (rm_same01 la Z a0 hw [] b182 x_106 x_113 x_179 T226.heap n0 O228 f231 f233 f234 f235 f236 f238 f240 f242) hZ (wd171 hw) (wd2 hw) (by decide) (by decide)) (g := (mkF mi 186 #[.val (.int x0), .val (.int x1), .val (.int x2), .val .null, .val (.ref x_106), .val (.ref x_113), .val (.ref x_179), .val (.ref b182), .val (.ref l__226)] [(.ref x_179), (.ref x_113), (.ref x_106), .null, (.ref b182)])) rfl (by rw [hml]; rfl) (argsL := [(.ref b182), .null, (.ref x_106), (.ref x_113), (.ref x_179)]) (rest := []) (lenOf pd_25 rfl) rfl (by show 2 * 0 + _ ≤ _; exact Nat.le_of_eq rfl) (hb hby at_186) (fun _ _ => ⟨rfl, e232, (by decide : 24 + 0 ≤ _), (by decide : 313 + 0 ≤ _)⟩)
        dsimp only [Pt.U, Pt.locs, Pt.cells, Pt.slots] at X243 l243 y243 z243 st243 hQ243
        subst l243 y243 z243
        obtain ⟨rfl, Nq243, ek243⟩ := hQ243
        have N243 := Fr.app N230 Nq243
        obtain ⟨fs, hr, hrun, hended, hWe⟩ := X243.leaveW hS (show _ ≤ T243.heap.size by rw [ek243]; exact hk) (v := some (.int (1 : Int32))) (fun hq => by rw [Bd.returns] at hq; cases hq)
        refine ⟨_, _, pre197 _ ?_, hrun, hended, _, _, rfl, ?_, ?_, hWe.1, hWe.2.1, hWe.2.2.1, hWe.2.2.2.mono (by decide) (by decide)⟩
        · show Steps pg.tables ev below (T194.setTop (mkF mi 83 #[.val (.int x0), .val (.int x1), .val (.int x2), .val .null, .val (.ref x_106), .val (.ref x_113), .val (.ref x_179), .val (.ref b182), .unset] [(.int x0), (.ref b182)])) _
          refine st226.trans ?_
          show Steps pg.tables ev below (T226.setTop (mkF mi 86 #[.val (.int x0), .val (.int x1), .val (.int x2), .val .null, .val (.ref x_106), .val (.ref x_113), .val (.ref x_179), .val (.ref b182), .unset] [(.ref l__226)])) _
          refine XS.astore X226.here hx rfl (hb hby at_86) rfl rfl (l' := #[.val (.int x0), .val (.int x1), .val (.int x2), .val .null, .val (.ref x_106), .val (.ref x_113), .val (.ref x_179), .val (.ref b182), .val (.ref l__226)]) rfl ?_
          refine XS.iloadN X226.here hx rfl (hb hby at_88) rfl ?_
          refine XS.iconst X226.here hx rfl (hb hby at_89) ?_
          refine XS.icmpYes X226.here hx rfl (pc0 := 90) (pc' := 157) rfl (hb hby at_90) rfl (feq hc198).2 (by decide) (by decide) ?_
          refine XS.aload X226.here hx rfl (hb hby at_157) rfl rfl ?_
          show Steps pg.tables ev below (T226.setTop (mkF mi 159 #[.val (.int x0), .val (.int x1), .val (.int x2), .val .null, .val (.ref x_106), .val (.ref x_113), .val (.ref x_179), .val (.ref b182), .val (.ref l__226)] [(.ref l__226)])) _
          refine st229.trans ?_
          show Steps pg.tables ev below (T229.setTop (mkF mi 164 #[.val (.int x0), .val (.int x1), .val (.int x2), .val .null, .val (.ref x_106), .val (.ref x_113), .val (.ref x_179), .val (.ref b182), .val (.ref l__226)] [(.int (1 : Int32))])) _
          refine XS.iconst X229.here hx rfl (hb hby at_164) ?_
          refine XS.icmpNo X229.here hx rfl (hb hby at_165) rfl (teq (rfl : (1 : Int32) = (1 : Int32))).2 ?_
          refine XS.aload X229.here hx rfl (hb hby at_168) rfl rfl ?_
          refine XS.iconst X229.here hx rfl (hb hby at_170) ?_
          show Steps pg.tables ev below (T229.setTop (mkF mi 171 #[.val (.int x0), .val (.int x1), .val (.int x2), .val .null, .val (.ref x_106), .val (.ref x_113), .val (.ref x_179), .val (.ref b182), .val (.ref l__226)] [(.int (0 : Int32)), (.ref l__226)])) _
          refine st230.trans ?_
          show Steps pg.tables ev below (T230.setTop (mkF mi 176 #[.val (.int x0), .val (.int x1), .val (.int x2), .val .null, .val (.ref x_106), .val (.ref x_113), .val (.ref x_179), .val (.ref b182), .val (.ref l__226)] [(.ref b182)])) _
          refine st232 _ ?_
          show Steps pg.tables ev below (T232.setTop (mkF mi 179 #[.val (.int x0), .val (.int x1), .val (.int x2), .val .null, .val (.ref x_106), .val (.ref x_113), .val (.ref x_179), .val (.ref b182), .val (.ref l__226)] [(.ref b182)])) _
          refine XS.aloadN X232.here hx rfl (hb hby at_179) rfl rfl ?_
          refine XS.aload X232.here hx rfl (hb hby at_180) rfl rfl ?_
          refine XS.aload X232.here hx rfl (hb hby at_182) rfl rfl ?_
          refine XS.aload X232.here hx rfl (hb hby at_184) rfl rfl ?_
          show Steps pg.tables ev below (T232.setTop (mkF mi 186 #[.val (.int x0), .val (.int x1), .val (.int x2), .val .null, .val (.ref x_106), .val (.ref x_113), .val (.ref x_179), .val (.ref b182), .val (.ref l__226)] [(.ref x_179), (.ref x_113), (.ref x_106), .null, (.ref b182)])) _
          refine st243 _ ?_
          show Steps pg.tables ev below (T243.setTop (mkF mi 189 #[.val (.int x0), .val (.int x1), .val (.int x2), .val .null, .val (.ref x_106), .val (.ref x_113), .val (.ref x_179), .val (.ref b182), .val (.ref l__226)] [(.int (1 : Int32))])) _
          refine XS.ifNo X243.here hx rfl (hb hby at_189) rfl ((if0 _ _).trans (feq (by decide : ¬ ((1 : Int32) = (0 : Int32)))).1) ?_
          refine XS.iconst X243.here hx rfl (hb hby at_192) ?_
          refine XS.goto X243.here hx rfl (pc0 := 193) (pc' := 197) rfl (hb hby at_193) (by decide) (by decide) ?_
          show Steps pg.tables ev below (T243.setTop (mkF mi 197 #[.val (.int x0), .val (.int x1), .val (.int x2), .val .null, .val (.ref x_106), .val (.ref x_113), .val (.ref x_179), .val (.ref b182), .val (.ref l__226)] [(.int (1 : Int32))])) _
          exact retN X243 hx (t := .boolean) Bd.returns (by simp) (hb hby at_197) hr
        · show Q_law Z x0 x1 x2 zc em hE n0 _ T243.heap _
          rw [ek243]
          exact ⟨rfl, N243⟩
        · show CHr Z ELs sb.vm sb.heap T243.vm T243.heap
          rw [hh, ek243]
          exact CHr.trans C227 (CHv.at X243 hZ hEL C227.1)
  · obtain ⟨v244, _, ⟨T244, L244, k244, n244⟩, -, X244, ⟨Lc244, hQ244, l244, y244, z244⟩, st244⟩ := Jvm.LawKit.callS X0 hx (y := mn0) hown (mvT hZ (wd0 hw)) (mvT hZ (wd1 hw)) (mvT hZ (wd2 hw)) (mvT hZ (wd3 hw)) (by decide) (backOf (W := 0) (rm_chc la Z a0 hw [] x1 hE n0 O) hZ (wd3 hw) (wd2 hw) (by decide) (by decide)) (g := (mkF mi 7 #[.val (.int x0), .val (.int x1), .val (.int x2), .unset, .unset, .unset, .unset, .unset, .unset] [(.int x1)])) rfl (by rw [hml]; rfl) (argsL := [(.int x1)]) (rest := []) (lenOf pd_20 rfl) rfl (by show 2 * 0 + _ ≤ _; exact Nat.le_of_eq rfl) (hb hby at_7) (fun _ _ => ⟨rfl, eE, (by decide : 0 + 0 ≤ _), (by decide : 0 + 0 ≤ _)⟩)
    dsimp only [Pt.U, Pt.locs, Pt.cells, Pt.slots] at X244 l244 y244 z244 st244 hQ244
    subst l244 y244 z244
    obtain ⟨rfl, Nq244, ek244⟩ := hQ244
    have N244 := Fr.app N0 Nq244
    obtain ⟨ca, he_ca⟩ : ∃ z, z = (chF x1) := ⟨_, rfl⟩
    have pre245 : ∀ tt, Steps pg.tables ev below (T244.setTop (mkF mi 10 #[.val (.int x0), .val (.int x1), .val (.int x2), .unset, .unset, .unset, .unset, .unset, .unset] [(.int (chF x1))])) tt → Steps pg.tables ev below (s₁.setTop (entryFrame mi #[(.int x0), (.int x1), (.int x2)] maxLocals)) tt := fun tt kk => pre102 _ (by
      show Steps pg.tables ev below (s₁.setTop (mkF mi 3 #[.val (.int x0), .val (.int x1), .val (.int x2), .unset, .unset, .unset, .unset, .unset, .unset] [(.int (x2 &&& (1 : Int32)))])) _
      refine XS.ifNo X0.here hx rfl (hb hby at_3) rfl ((if0 _ _).trans (feq hc101).1) ?_
      refine XS.iloadN X0.here hx rfl (hb hby at_6) rfl ?_
      show Steps pg.tables ev below (s₁.setTop (mkF mi 7 #[.val (.int x0), .val (.int x1), .val (.int x2), .unset, .unset, .unset, .unset, .unset, .unset] [(.int x1)])) _
      refine st244 _ ?_
      exact kk)
    have pre246 : ∀ tt, Steps pg.tables ev below (T244.setTop (mkF mi 10 #[.val (.int x0), .val (.int x1), .val (.int x2), .unset, .unset, .unset, .unset, .unset, .unset] [(.int ca)])) tt → Steps pg.tables ev below (s₁.setTop (entryFrame mi #[(.int x0), (.int x1), (.int x2)] maxLocals)) tt := fun tt kk => pre245 tt (by rw [← he_ca]; exact kk)
    have o_ca : ¬ (ca < (0 : Int32)) ∧ ¬ ((255 : Int32) < ca) ∧ ¬ (ca = (47 : Int32)) ∧ ¬ (ca = (33 : Int32)) := he_ca ▸ own_chB _
    have z_ca : ¬ (ca < (0 : Int32)) := o_ca.1
    have y_ca : ¬ ((255 : Int32) < ca) := o_ca.2.1
    have s47_ca : ¬ ((ca.toInt8.toInt32) = (47 : Int32)) := own_ch_byte z_ca y_ca (by decide) o_ca.2.2.1
    have s33_ca : ¬ ((ca.toInt8.toInt32) = (33 : Int32)) := own_ch_byte z_ca y_ca (by decide) o_ca.2.2.2
    obtain ⟨v247, _, ⟨T247, L247, k247, n247⟩, -, X247, ⟨Lc247, hQ247, l247, y247, z247⟩, st247⟩ := Jvm.LawKit.callS X244 hx (y := mn4) hown (mvT hZ (wd4 hw)) (mvT hZ (wd5 hw)) (mvT hZ (wd6 hw)) (mvT hZ (wd7 hw)) (by decide) (backOf (W := 0) (rm_vof la Z a0 hw [] ca zc hE n0 O D0_ (y_ca : ¬ ((255 : Int32) < ca)) (z_ca : ¬ (ca < (0 : Int32))) (hzc : ¬ (zc = (0 : Int32)))) hZ (wd7 hw) (wd6 hw) (by decide) (by decide)) (g := (mkF mi 10 #[.val (.int x0), .val (.int x1), .val (.int x2), .unset, .unset, .unset, .unset, .unset, .unset] [(.int ca)])) rfl (by rw [hml]; rfl) (argsL := [(.int ca)]) (rest := []) (lenOf pd_21 rfl) rfl (by show 2 * 0 + _ ≤ _; exact Nat.le_of_eq rfl) (hb hby at_10) (fun _ _ => ⟨rfl, ek244, (by decide : 0 + 2 ≤ _), (by decide : 0 + 5 ≤ _)⟩)
    dsimp only [Pt.U, Pt.locs, Pt.cells, Pt.slots] at X247 l247 y247 z247 st247 hQ247
    subst l247 y247 z247
    obtain ⟨x_247, t_247, rfl, Nq247, Kq247, fr_x_247, fr_t_247, r247_0⟩ := hQ247
    have N247 := Fr.app N244 Nq247
    have c248 := CHr.keep Kq247 sf0 C0.1
    have C249 := CHr.trans C0 c248
    have O250 : Old Z n0 T247.heap := (O.keep Kq247 all0)
    obtain ⟨v251, _, ⟨T251, L251, k251, n251⟩, -, X251, ⟨Lc251, hQ251, l251, y251, z251⟩, st251⟩ := Jvm.LawKit.callS X247 hx (y := mn0) hown (mvT hZ (wd0 hw)) (mvT hZ (wd1 hw)) (mvT hZ (wd2 hw)) (mvT hZ (wd3 hw)) (by decide) (backOf (W := 0) (rm_chc la Z a0 hw [] ((x1.toUInt32 >>> ((8 : Int32) &&& 31).toUInt32).toInt32) T247.heap n0 O250) hZ (wd3 hw) (wd2 hw) (by decide) (by decide)) (g := (mkF mi 22 #[.val (.int x0), .val (.int x1), .val (.int x2), .val (.ref x_247), .unset, .unset, .unset, .unset, .unset] [(.int ((x1.toUInt32 >>> ((8 : Int32) &&& 31).toUInt32).toInt32))])) rfl (by rw [hml]; rfl) (argsL := [(.int ((x1.toUInt32 >>> ((8 : Int32) &&& 31).toUInt32).toInt32))]) (rest := []) (lenOf pd_20 rfl) rfl (by show 2 * 0 + _ ≤ _; exact Nat.le_of_eq rfl) (hb hby at_22) (fun _ _ => ⟨rfl, rfl, (by decide : 2 + 0 ≤ _), (by decide : 5 + 0 ≤ _)⟩)
    dsimp only [Pt.U, Pt.locs, Pt.cells, Pt.slots] at X251 l251 y251 z251 st251 hQ251
    subst l251 y251 z251
    obtain ⟨rfl, Nq251, ek251⟩ := hQ251
    have N251 := Fr.app N247 Nq251
    obtain ⟨cm, he_cm⟩ : ∃ z, z = (chF ((x1.toUInt32 >>> ((8 : Int32) &&& 31).toUInt32).toInt32)) := ⟨_, rfl⟩
    have pre252 : ∀ tt, Steps pg.tables ev below (T251.setTop (mkF mi 25 #[.val (.int x0), .val (.int x1), .val (.int x2), .val (.ref x_247), .unset, .unset, .unset, .unset, .unset] [(.int (chF ((x1.toUInt32 >>> ((8 : Int32) &&& 31).toUInt32).toInt32)))])) tt → Steps pg.tables ev below (s₁.setTop (entryFrame mi #[(.int x0), (.int x1), (.int x2)] maxLocals)) tt := fun tt kk => pre246 _ (by
      show Steps pg.tables ev below (T244.setTop (mkF mi 10 #[.val (.int x0), .val (.int x1), .val (.int x2), .unset, .unset, .unset, .unset, .unset, .unset] [(.int ca)])) _
      refine st247 _ ?_
      show Steps pg.tables ev below (T247.setTop (mkF mi 13 #[.val (.int x0), .val (.int x1), .val (.int x2), .unset, .unset, .unset, .unset, .unset, .unset] [(.ref x_247)])) _
      refine XS.goto X247.here hx rfl (pc0 := 13) (pc' := 17) rfl (hb hby at_13) (by decide) (by decide) ?_
      refine XS.astoreN X247.here hx rfl (hb hby at_17) rfl rfl (l' := #[.val (.int x0), .val (.int x1), .val (.int x2), .val (.ref x_247), .unset, .unset, .unset, .unset, .unset]) rfl ?_
      refine XS.iloadN X247.here hx rfl (hb hby at_18) rfl ?_
      refine XS.bipush X247.here hx rfl (hb hby at_19) ?_
      refine XS.iushr X247.here hx rfl (hb hby at_21) rfl ?_
      show Steps pg.tables ev below (T247.setTop (mkF mi 22 #[.val (.int x0), .val (.int x1), .val (.int x2), .val (.ref x_247), .unset, .unset, .unset, .unset, .unset] [(.int ((x1.toUInt32 >>> ((8 : Int32) &&& 31).toUInt32).toInt32))])) _
      refine st251 _ ?_
      exact kk)
    have pre253 : ∀ tt, Steps pg.tables ev below (T251.setTop (mkF mi 25 #[.val (.int x0), .val (.int x1), .val (.int x2), .val (.ref x_247), .unset, .unset, .unset, .unset, .unset] [(.int cm)])) tt → Steps pg.tables ev below (s₁.setTop (entryFrame mi #[(.int x0), (.int x1), (.int x2)] maxLocals)) tt := fun tt kk => pre252 tt (by rw [← he_cm]; exact kk)
    have o_cm : ¬ (cm < (0 : Int32)) ∧ ¬ ((255 : Int32) < cm) ∧ ¬ (cm = (47 : Int32)) ∧ ¬ (cm = (33 : Int32)) := he_cm ▸ own_chB _
    have z_cm : ¬ (cm < (0 : Int32)) := o_cm.1
    have y_cm : ¬ ((255 : Int32) < cm) := o_cm.2.1
    have s47_cm : ¬ ((cm.toInt8.toInt32) = (47 : Int32)) := own_ch_byte z_cm y_cm (by decide) o_cm.2.2.1
    have s33_cm : ¬ ((cm.toInt8.toInt32) = (33 : Int32)) := own_ch_byte z_cm y_cm (by decide) o_cm.2.2.2
    obtain ⟨v254, _, ⟨T254, L254, k254, n254⟩, -, X254, ⟨Lc254, hQ254, l254, y254, z254⟩, st254⟩ := Jvm.LawKit.callS X251 hx (y := mn4) hown (mvT hZ (wd4 hw)) (mvT hZ (wd5 hw)) (mvT hZ (wd6 hw)) (mvT hZ (wd7 hw)) (by decide) (backOf (W := 0) (rm_vof la Z a0 hw [] cm zc T247.heap n0 O250 D0_ (y_cm : ¬ ((255 : Int32) < cm)) (z_cm : ¬ (cm < (0 : Int32))) (hzc : ¬ (zc = (0 : Int32)))) hZ (wd7 hw) (wd6 hw) (by decide) (by decide)) (g := (mkF mi 25 #[.val (.int x0), .val (.int x1), .val (.int x2), .val (.ref x_247), .unset, .unset, .unset, .unset, .unset] [(.int cm)])) rfl (by rw [hml]; rfl) (argsL := [(.int cm)]) (rest := []) (lenOf pd_21 rfl) rfl (by show 2 * 0 + _ ≤ _; exact Nat.le_of_eq rfl) (hb hby at_25) (fun _ _ => ⟨rfl, ek251, (by decide : 2 + 2 ≤ _), (by decide : 5 + 5 ≤ _)⟩)
    dsimp only [Pt.U, Pt.locs, Pt.cells, Pt.slots] at X254 l254 y254 z254 st254 hQ254
    subst l254 y254 z254
    obtain ⟨x_254, t_254, rfl, Nq254, Kq254, fr_x_254, fr_t_254, r254_0⟩ := hQ254
    have N254 := Fr.app N251 Nq254
    have c255 := CHr.keep Kq254 sf0 C249.1
    have C256 := CHr.trans C249 c255
    have O257 : Old Z n0 T254.heap := (O250.keep Kq254 all0)
    obtain ⟨v258, _, ⟨T258, L258, k258, n258⟩, -, X258, ⟨Lc258, hQ258, l258, y258, z258⟩, st258⟩ := Jvm.LawKit.callS X254 hx (y := mn0) hown (mvT hZ (wd0 hw)) (mvT hZ (wd1 hw)) (mvT hZ (wd2 hw)) (mvT hZ (wd3 hw)) (by decide) (backOf (W := 0) (rm_chc la Z a0 hw [] ((x1.toUInt32 >>> ((16 : Int32) &&& 31).toUInt32).toInt32) T254.heap n0 O257) hZ (wd3 hw) (wd2 hw) (by decide) (by decide)) (g := (mkF mi 34 #[.val (.int x0), .val (.int x1), .val (.int x2), .val (.ref x_247), .val (.ref x_254), .unset, .unset, .unset, .unset] [(.int ((x1.toUInt32 >>> ((16 : Int32) &&& 31).toUInt32).toInt32))])) rfl (by rw [hml]; rfl) (argsL := [(.int ((x1.toUInt32 >>> ((16 : Int32) &&& 31).toUInt32).toInt32))]) (rest := []) (lenOf pd_20 rfl) rfl (by show 2 * 0 + _ ≤ _; exact Nat.le_of_eq rfl) (hb hby at_34) (fun _ _ => ⟨rfl, rfl, (by decide : 4 + 0 ≤ _), (by decide : 10 + 0 ≤ _)⟩)
    dsimp only [Pt.U, Pt.locs, Pt.cells, Pt.slots] at X258 l258 y258 z258 st258 hQ258
    subst l258 y258 z258
    obtain ⟨rfl, Nq258, ek258⟩ := hQ258
    have N258 := Fr.app N254 Nq258
    obtain ⟨cb, he_cb⟩ : ∃ z, z = (chF ((x1.toUInt32 >>> ((16 : Int32) &&& 31).toUInt32).toInt32)) := ⟨_, rfl⟩
    have pre259 : ∀ tt, Steps pg.tables ev below (T258.setTop (mkF mi 37 #[.val (.int x0), .val (.int x1), .val (.int x2), .val (.ref x_247), .val (.ref x_254), .unset, .unset, .unset, .unset] [(.int (chF ((x1.toUInt32 >>> ((16 : Int32) &&& 31).toUInt32).toInt32)))])) tt → Steps pg.tables ev below (s₁.setTop (entryFrame mi #[(.int x0), (.int x1), (.int x2)] maxLocals)) tt := fun tt kk => pre253 _ (by
      show Steps pg.tables ev below (T251.setTop (mkF mi 25 #[.val (.int x0), .val (.int x1), .val (.int x2), .val (.ref x_247), .unset, .unset, .unset, .unset, .unset] [(.int cm)])) _
      refine st254 _ ?_
      show Steps pg.tables ev below (T254.setTop (mkF mi 28 #[.val (.int x0), .val (.int x1), .val (.int x2), .val (.ref x_247), .unset, .unset, .unset, .unset, .unset] [(.ref x_254)])) _
      refine XS.astore X254.here hx rfl (hb hby at_28) rfl rfl (l' := #[.val (.int x0), .val (.int x1), .val (.int x2), .val (.ref x_247), .val (.ref x_254), .unset, .unset, .unset, .unset]) rfl ?_
      refine XS.iloadN X254.here hx rfl (hb hby at_30) rfl ?_
      refine XS.bipush X254.here hx rfl (hb hby at_31) ?_
      refine XS.iushr X254.here hx rfl (hb hby at_33) rfl ?_
      show Steps pg.tables ev below (T254.setTop (mkF mi 34 #[.val (.int x0), .val (.int x1), .val (.int x2), .val (.ref x_247), .val (.ref x_254), .unset, .unset, .unset, .unset] [(.int ((x1.toUInt32 >>> ((16 : Int32) &&& 31).toUInt32).toInt32))])) _
      refine st258 _ ?_
      exact kk)
    have pre260 : ∀ tt, Steps pg.tables ev below (T258.setTop (mkF mi 37 #[.val (.int x0), .val (.int x1), .val (.int x2), .val (.ref x_247), .val (.ref x_254), .unset, .unset, .unset, .unset] [(.int cb)])) tt → Steps pg.tables ev below (s₁.setTop (entryFrame mi #[(.int x0), (.int x1), (.int x2)] maxLocals)) tt := fun tt kk => pre259 tt (by rw [← he_cb]; exact kk)
    have o_cb : ¬ (cb < (0 : Int32)) ∧ ¬ ((255 : Int32) < cb) ∧ ¬ (cb = (47 : Int32)) ∧ ¬ (cb = (33 : Int32)) := he_cb ▸ own_chB _
    have z_cb : ¬ (cb < (0 : Int32)) := o_cb.1
    have y_cb : ¬ ((255 : Int32) < cb) := o_cb.2.1
    have s47_cb : ¬ ((cb.toInt8.toInt32) = (47 : Int32)) := own_ch_byte z_cb y_cb (by decide) o_cb.2.2.1
    have s33_cb : ¬ ((cb.toInt8.toInt32) = (33 : Int32)) := own_ch_byte z_cb y_cb (by decide) o_cb.2.2.2
    obtain ⟨v261, _, ⟨T261, L261, k261, n261⟩, -, X261, ⟨Lc261, hQ261, l261, y261, z261⟩, st261⟩ := Jvm.LawKit.callS X258 hx (y := mn4) hown (mvT hZ (wd4 hw)) (mvT hZ (wd5 hw)) (mvT hZ (wd6 hw)) (mvT hZ (wd7 hw)) (by decide) (backOf (W := 0) (rm_vof la Z a0 hw [] cb zc T254.heap n0 O257 D0_ (y_cb : ¬ ((255 : Int32) < cb)) (z_cb : ¬ (cb < (0 : Int32))) (hzc : ¬ (zc = (0 : Int32)))) hZ (wd7 hw) (wd6 hw) (by decide) (by decide)) (g := (mkF mi 37 #[.val (.int x0), .val (.int x1), .val (.int x2), .val (.ref x_247), .val (.ref x_254), .unset, .unset, .unset, .unset] [(.int cb)])) rfl (by rw [hml]; rfl) (argsL := [(.int cb)]) (rest := []) (lenOf pd_21 rfl) rfl (by show 2 * 0 + _ ≤ _; exact Nat.le_of_eq rfl) (hb hby at_37) (fun _ _ => ⟨rfl, ek258, (by decide : 4 + 2 ≤ _), (by decide : 10 + 5 ≤ _)⟩)
    dsimp only [Pt.U, Pt.locs, Pt.cells, Pt.slots] at X261 l261 y261 z261 st261 hQ261
    subst l261 y261 z261
    obtain ⟨x_261, t_261, rfl, Nq261, Kq261, fr_x_261, fr_t_261, r261_0⟩ := hQ261
    have N261 := Fr.app N258 Nq261
    have c262 := CHr.keep Kq261 sf0 C256.1
    have C263 := CHr.trans C256 c262
    have pre265 : ∀ tt, Steps pg.tables ev below (T261.setTop (mkF mi 45 #[.val (.int x0), .val (.int x1), .val (.int x2), .val (.ref x_247), .val (.ref x_254), .val (.ref x_261), .unset, .unset, .unset] [(.int (x2 &&& (2 : Int32)))])) tt → Steps pg.tables ev below (s₁.setTop (entryFrame mi #[(.int x0), (.int x1), (.int x2)] maxLocals)) tt := fun tt kk => pre260 _ (by
      show Steps pg.tables ev below (T258.setTop (mkF mi 37 #[.val (.int x0), .val (.int x1), .val (.int x2), .val (.ref x_247), .val (.ref x_254), .unset, .unset, .unset, .unset] [(.int cb)])) _
      refine st261 _ ?_
      show Steps pg.tables ev below (T261.setTop (mkF mi 40 #[.val (.int x0), .val (.int x1), .val (.int x2), .val (.ref x_247), .val (.ref x_254), .unset, .unset, .unset, .unset] [(.ref x_261)])) _
      refine XS.astore X261.here hx rfl (hb hby at_40) rfl rfl (l' := #[.val (.int x0), .val (.int x1), .val (.int x2), .val (.ref x_247), .val (.ref x_254), .val (.ref x_261), .unset, .unset, .unset]) rfl ?_
      refine XS.iloadN X261.here hx rfl (hb hby at_42) rfl ?_
      refine XS.iconst X261.here hx rfl (hb hby at_43) ?_
      refine XS.iand X261.here hx rfl (hb hby at_44) rfl ?_
      exact kk)
    by_cases hc264 : (x2 &&& (2 : Int32)) = (0 : Int32)
    · obtain ⟨T266, h266, X266, e266, E266, A266, D266, -, st266⟩ := newO X261 hx hZ hown (wd30 hw) (wd31 hw) (wd32 hw) rfl (g := (mkF mi 64 #[.val (.int x0), .val (.int x1), .val (.int x2), .val (.ref x_247), .val (.ref x_254), .val (.ref x_261), .val .null, .unset, .unset] [])) rfl (hb hby at_64) (by decide) (by decide)
      obtain ⟨b266, q266⟩ : ∃ z, z = T261.heap.size := ⟨_, rfl⟩
      rw [← q266] at A266 D266 st266
      have c267 := CHr.ext E266 C263.1
      have C268 := CHr.trans C263 c267
      have f269 : Fld Z h266 b266 "com/example/beanloft/beanloft/naming/GlobalName" "appName" "Ljava/lang/String;" .null := D266 (Or.inr (wd100 hw)) (ty := (.object "java/lang/String")) (by decide)
      have f270 : Fld Z h266 b266 "com/example/beanloft/beanloft/naming/GlobalName" "moduleName" "Ljava/lang/String;" .null := D266 (Or.inr (wd102 hw)) (ty := (.object "java/lang/String")) (by decide)
      have f271 : Fld Z h266 b266 "com/example/beanloft/beanloft/naming/GlobalName" "beanName" "Ljava/lang/String;" .null := D266 (Or.inr (wd104 hw)) (ty := (.object "java/lang/String")) (by decide)
      have f272 : Fld Z h266 b266 "com/example/beanloft/beanloft/naming/GlobalName" "viewName" "Ljava/lang/String;" .null := D266 (Or.inr (wd106 hw)) (ty := (.object "java/lang/String")) (by decide)
      have O273 : Old Z n0 h266 := ((O257.keep Kq261 all0).ext E266)
      have f274 : LStr Z h266 x_247 t_247 ([ca] : List Int32) := (((r247_0.keep Kq254 nin0 nin0).keep Kq261 nin0 nin0).ext E266)
      have f275 : LStr Z h266 x_254 t_254 ([cm] : List Int32) := ((r254_0.keep Kq261 nin0 nin0).ext E266)
      have f276 : LStr Z h266 x_261 t_261 ([cb] : List Int32) := (r261_0.ext E266)
      have O277 : Old Z n0 T261.heap := (O257.keep Kq261 all0)
      have g_b266 : n0 ≤ b266 := Nat.le_trans (Nat.le_trans (Nat.le_of_eq O277.1.symm) O277.2.1) (Nat.le_of_eq q266.symm)
      have ne_x_247_b266 : x_247 ≠ b266 := Nat.ne_of_lt (Nat.lt_of_lt_of_le r247_0.lt (Nat.le_trans (Nat.le_trans Kq254.1 Kq261.1) (Nat.le_of_eq q266.symm)))
      have ne_t_247_b266 : t_247 ≠ b266 := Nat.ne_of_lt (Nat.lt_of_lt_of_le r247_0.ltt (Nat.le_trans (Nat.le_trans Kq254.1 Kq261.1) (Nat.le_of_eq q266.symm)))
      have ne_x_254_b266 : x_254 ≠ b266 := Nat.ne_of_lt (Nat.lt_of_lt_of_le r254_0.lt (Nat.le_trans Kq261.1 (Nat.le_of_eq q266.symm)))
      have ne_t_254_b266 : t_254 ≠ b266 := Nat.ne_of_lt (Nat.lt_of_lt_of_le r254_0.ltt (Nat.le_trans Kq261.1 (Nat.le_of_eq q266.symm)))
      have ne_x_261_b266 : x_261 ≠ b266 := Nat.ne_of_lt (Nat.lt_of_lt_of_le r261_0.lt (Nat.le_trans (Nat.le_refl _) (Nat.le_of_eq q266.symm)))
      have ne_t_261_b266 : t_261 ≠ b266 := Nat.ne_of_lt (Nat.lt_of_lt_of_le r261_0.ltt (Nat.le_trans (Nat.le_refl _) (Nat.le_of_eq q266.symm)))
      have pre279 : ∀ tt, Steps pg.tables ev below (T266.setTop (mkF mi 75 #[.val (.int x0), .val (.int x1), .val (.int x2), .val (.ref x_247), .val (.ref x_254), .val (.ref x_261), .val .null, .unset, .unset] [.null, (.ref x_261), (.ref x_254), (.ref x_247), (.ref b266), (.ref b266)])) tt → Steps pg.tables ev below (s₁.setTop (entryFrame mi #[(.int x0), (.int x1), (.int x2)] maxLocals)) tt := fun tt kk => pre265 _ (by
        show Steps pg.tables ev below (T261.setTop (mkF mi 45 #[.val (.int x0), .val (.int x1), .val (.int x2), .val (.ref x_247), .val (.ref x_254), .val (.ref x_261), .unset, .unset, .unset] [(.int (x2 &&& (2 : Int32)))])) _
        refine XS.ifYes X261.here hx rfl (pc0 := 45) (pc' := 61) rfl (hb hby at_45) rfl ((if0 _ _).trans (teq hc264).1) (by decide) (by decide) ?_
        refine XS.aconstNull X261.here hx rfl (hb hby at_61) ?_
        refine XS.astore X261.here hx rfl (hb hby at_62) rfl rfl (l' := #[.val (.int x0), .val (.int x1), .val (.int x2), .val (.ref x_247), .val (.ref x_254), .val (.ref x_261), .val .null, .unset, .unset]) rfl ?_
        show Steps pg.tables ev below (T261.setTop (mkF mi 64 #[.val (.int x0), .val (.int x1), .val (.int x2), .val (.ref x_247), .val (.ref x_254), .val (.ref x_261), .val .null, .unset, .unset] [])) _
        refine st266 _ ?_
        show Steps pg.tables ev below (T266.setTop (mkF mi 67 #[.val (.int x0), .val (.int x1), .val (.int x2), .val (.ref x_247), .val (.ref x_254), .val (.ref x_261), .val .null, .unset, .unset] [(.ref b266)])) _
        refine XS.dup X266.here hx rfl (hb hby at_67) rfl rfl ?_
        refine XS.aloadN X266.here hx rfl (hb hby at_68) rfl rfl ?_
        refine XS.aload X266.here hx rfl (hb hby at_69) rfl rfl ?_
        refine XS.aload X266.here hx rfl (hb hby at_71) rfl rfl ?_
        refine XS.aload X266.here hx rfl (hb hby at_73) rfl rfl ?_
        exact kk)
      obtain ⟨v278, _, ⟨T278, L278, k278, n278⟩, -, X278, s278, gr278, ⟨Lc278, hQ278, l278, y278, z278, c278⟩, st278⟩ := X266.specialBackS hx (y := mn17) rfl hown (mvT hZ (wd33 hw)) (mvT hZ (wd34 hw)) (mvT hZ (wd35 hw)) (by decide) (backOfSH (W := 1) (rm_gin1110 la Z a0 hw [] b266 x_247 t_247 ca x_254 t_254 cm x_261 t_261 cb zc h266 n0 O273 A266 f269 f270 f271 f272 f274 f275 f276 D0_ g_b266 ne_x_247_b266 ne_t_247_b266 ne_x_254_b266 ne_t_254_b266 ne_x_261_b266 ne_t_261_b266 (s47_ca : ¬ ((ca.toInt8.toInt32) = (47 : Int32))) (s33_ca : ¬ ((ca.toInt8.toInt32) = (33 : Int32))) (s47_cm : ¬ ((cm.toInt8.toInt32) = (47 : Int32))) (s33_cm : ¬ ((cm.toInt8.toInt32) = (33 : Int32))) (s47_cb : ¬ ((cb.toInt8.toInt32) = (47 : Int32))) (s33_cb : ¬ ((cb.toInt8.toInt32) = (33 : Int32))) (hzc : ¬ (zc = (0 : Int32)))) hZ (wd35 hw) (wd32 hw) (by decide) (by decide) hEL C268.1) (g := (mkF mi 75 #[.val (.int x0), .val (.int x1), .val (.int x2), .val (.ref x_247), .val (.ref x_254), .val (.ref x_261), .val .null, .unset, .unset] [.null, (.ref x_261), (.ref x_254), (.ref x_247), (.ref b266), (.ref b266)])) rfl (by rw [hml]; rfl) (Steps.refl _) (a := b266) (argsL := [(.ref x_247), (.ref x_254), (.ref x_261), .null]) (rest := [(.ref b266)]) (lenOf pd_12 rfl) rfl (by show 2 * 0 + _ ≤ _; exact Nat.le_of_eq rfl) (hb hby at_75) (fun _ _ => ⟨rfl, e266, (by decide : 7 + 16 ≤ _), (by decide : 19 + 292 ≤ _)⟩)
      dsimp only [Pt.U, Pt.locs, Pt.cells, Pt.slots] at X278 s278 gr278 l278 y278 z278 c278 st278 hQ278
      subst l278 y278 z278
      obtain ⟨X278, hS, hZ, hown⟩ := rebS hS (show _ ≤ T266.heap.size by rw [e266]; exact (Nat.le_trans hk (Nat.le_trans (Nat.le_trans (Nat.le_trans Kq247.1 Kq254.1) Kq261.1) E266.1))) X278 s278 gr278 hZ hown
      have hk : T278.heap.size ≤ T278.heap.size := Nat.le_refl _
      obtain ⟨rfl, Nq278, Kq278, r278_0, r278_1, r278_2, r278_3, r278_4⟩ := hQ278
      have N278 := Fr.app N261 Nq278
      have C280 := CHr.trans C268 c278
      have pre281 : ∀ tt, Steps pg.tables ev below (T278.setTop (mkF mi 83 #[.val (.int x0), .val (.int x1), .val (.int x2), .val (.ref x_247), .val (.ref x_254), .val (.ref x_261), .val .null, .val (.ref b266), .unset] [(.int x0), (.ref b266)])) tt → Steps pg.tables ev below (s₁.setTop (entryFrame mi #[(.int x0), (.int x1), (.int x2)] maxLocals)) tt := fun tt kk => pre279 _ (by
        show Steps pg.tables ev below (T266.setTop (mkF mi 75 #[.val (.int x0), .val (.int x1), .val (.int x2), .val (.ref x_247), .val (.ref x_254), .val (.ref x_261), .val .null, .unset, .unset] [.null, (.ref x_261), (.ref x_254), (.ref x_247), (.ref b266), (.ref b266)])) _
        refine st278.trans ?_
        show Steps pg.tables ev below (T278.setTop (mkF mi 78 #[.val (.int x0), .val (.int x1), .val (.int x2), .val (.ref x_247), .val (.ref x_254), .val (.ref x_261), .val .null, .unset, .unset] [(.ref b266)])) _
        refine XS.astore X278.here hx rfl (hb hby at_78) rfl rfl (l' := #[.val (.int x0), .val (.int x1), .val (.int x2), .val (.ref x_247), .val (.ref x_254), .val (.ref x_261), .val .null, .val (.ref b266), .unset]) rfl ?_
        refine XS.aload X278.here hx rfl (hb hby at_80) rfl rfl ?_
        refine XS.iloadN X278.here hx rfl (hb hby at_82) rfl ?_
        exact kk)
      by_cases hc282 : x0 = (1 : Int32)
      · have O283 : Old Z n0 T278.heap := (O273.keep Kq278 (allS g_b266 all0))
        have f284 : LStr Z T278.heap x_247 t_247 ([ca] : List Int32) := (f274.keep Kq278 (ninS ne_x_247_b266 nin0) (ninS ne_t_247_b266 nin0))
        have f285 : LStr Z T278.heap x_254 t_254 ([cm] : List Int32) := (f275.keep Kq278 (ninS ne_x_254_b266 nin0) (ninS ne_t_254_b266 nin0))
        have f286 : LStr Z T278.heap x_261 t_261 ([cb] : List Int32) := (f276.keep Kq278 (ninS ne_x_261_b266 nin0) (ninS ne_t_261_b266 nin0))
        obtain ⟨cq287, kq287, q287a, q287b, q287c⟩ := isOf hZ rfl r278_0
        obtain ⟨v287, _, ⟨T287, L287, k287, n287⟩, -, X287, s287, gr287, ⟨Lc287, hQ287, l287, y287, z287, c287⟩, st287⟩ := X278.virtualBackS hx (y := mn35) (z := mn35) hown (mvT hZ (wd107 hw)) (mvT hZ (wd108 hw)) (notFace_of_selects (args := #[]) (mvT hZ (wd110 hw))) (mvT hZ (wd110 hw)) (mvT hZ (wd109 hw)) (by decide) (backOfSH (W := 0) (rm_fo11 la Z a0 hw [] b266 x0 x_247 t_247 ca x_254 t_254 cm x_261 t_261 cb zc em T278.heap n0 O283 r278_0 r278_1 r278_2 r278_3 f284 f285 f286 D0_ D1_ (s47_ca : ¬ ((ca.toInt8.toInt32) = (47 : Int32))) (s33_ca : ¬ ((ca.toInt8.toInt32) = (33 : Int32))) (s47_cm : ¬ ((cm.toInt8.toInt32) = (47 : Int32))) (s33_cm : ¬ ((cm.toInt8.toInt32) = (33 : Int32))) (s47_cb : ¬ ((cb.toInt8.toInt32) = (47 : Int32))) (s33_cb : ¬ ((cb.toInt8.toInt32) = (33 : Int32))) (hzc : ¬ (zc = (0 : Int32))) (hc282 : x0 = (1 : Int32))) hZ (wd111 hw) (wd32 hw) (by decide) (by decide) hEL C280.1) q287a q287c (g := (mkF mi 83 #[.val (.int x0), .val (.int x1), .val (.int x2), .val (.ref x_247), .val (.ref x_254), .val (.ref x_261), .val .null, .val (.ref b266), .unset] [(.int x0), (.ref b266)])) rfl (by rw [hml]; rfl) (Steps.refl _) (argsL := [(.int x0)]) (rest := []) (lenOf pd_22 rfl) rfl (by show 2 * 0 + _ ≤ _; exact Nat.le_of_eq rfl) (hb hby at_83) (fun _ _ => ⟨rfl, rfl, (by decide : 23 + 18 ≤ _), (by decide : 311 + 298 ≤ _)⟩)
        dsimp only [Pt.U, Pt.locs, Pt.cells, Pt.slots] at X287 s287 gr287 l287 y287 z287 c287 st287 hQ287
        subst l287 y287 z287
        obtain ⟨X287, hS, hZ, hown⟩ := rebS hS (show _ ≤ T278.heap.size from hk) X287 s287 gr287 hZ hown
        have hk : T287.heap.size ≤ T287.heap.size := Nat.le_refl _
        obtain ⟨l__287, g2_287, rfl, Nq287, Kq287, fr_l__287, fr_g2_287, r287_0, r287_1, r287_2, r287_3, r287_4, r287_5, r287_6, r287_7⟩ := hQ287
        have N287 := Fr.app N278 Nq287
        have C288 := CHr.trans C280 c287
        have O289 : Old Z n0 T287.heap := (O283.keep Kq287 all0)
        have ne_em_g2_287 : em ≠ g2_287 := Nat.ne_of_lt (Nat.lt_of_lt_of_le D2_.lt (Nat.le_trans O283.2.1 fr_g2_287))
        obtain ⟨cq290, kq290, q290a, q290b, q290c⟩ := isOf hZ rfl r287_0
        obtain ⟨v290, _, ⟨T290, L290, k290, n290⟩, -, X290, ⟨Lc290, hQ290, l290, y290, z290⟩, st290⟩ := X287.interfaceBack hx (xi := mn36) (y := mn26) hown (mvT hZ (wd151 hw)) (mvT hZ (wd152 hw)) (mvT hZ (wd153 hw)) (mvT hZ (wd154 hw)) (mvT hZ (wd155 hw)) (mvT hZ (wd156 hw)) (mvT hZ (wd157 hw)) (mvT hZ (wd158 hw)) (by decide) (backOf (W := 0) (rm_sz2 la Z a0 hw [] l__287 g2_287 em T287.heap n0 O289 r287_2 D1_ (Ne.symm ne_em_g2_287)) hZ (wd159 hw) (wd118 hw) (by decide) (by decide)) q290a q290b q290c (g := (mkF mi 95 #[.val (.int x0), .val (.int x1), .val (.int x2), .val (.ref x_247), .val (.ref x_254), .val (.ref x_261), .val .null, .val (.ref b266), .val (.ref l__287)] [(.ref l__287)])) rfl (by rw [hml]; rfl) (Steps.refl _) (argsL := []) (rest := []) (lenOf pd_23 rfl) rfl (by show 2 * 0 + _ ≤ _; exact Nat.le_of_eq rfl) (hb hby at_95) (fun _ _ => ⟨rfl, rfl, (by decide : 41 + 0 ≤ _), (by decide : 609 + 0 ≤ _)⟩)
        dsimp only [Pt.U, Pt.locs, Pt.cells, Pt.slots] at X290 l290 y290 z290 st290 hQ290
        subst l290 y290 z290
        obtain ⟨rfl, Nq290, ek290⟩ := hQ290
        have N290 := Fr.app N287 Nq290
        obtain ⟨cq291, kq291, q291a, q291b, q291c⟩ := isOf hZ ek290 r287_0
        obtain ⟨v291, _, ⟨T291, L291, k291, n291⟩, -, X291, ⟨Lc291, hQ291, l291, y291, z291⟩, st291⟩ := X290.interfaceBack hx (xi := mn37) (y := mn27) hown (mvT hZ (wd160 hw)) (mvT hZ (wd161 hw)) (mvT hZ (wd162 hw)) (mvT hZ (wd163 hw)) (mvT hZ (wd164 hw)) (mvT hZ (wd165 hw)) (mvT hZ (wd166 hw)) (mvT hZ (wd158 hw)) (by decide) (backOf (W := 0) (rm_get0 la Z a0 hw [] l__287 b266 T287.heap n0 O289 r287_1) hZ (wd167 hw) (wd118 hw) (by decide) (by decide)) q291a q291b q291c (g := (mkF mi 107 #[.val (.int x0), .val (.int x1), .val (.int x2), .val (.ref x_247), .val (.ref x_254), .val (.ref x_261), .val .null, .val (.ref b266), .val (.ref l__287)] [(.int (0 : Int32)), (.ref l__287)])) rfl (by rw [hml]; rfl) (Steps.refl _) (argsL := [(.int (0 : Int32))]) (rest := []) (lenOf pd_24 rfl) rfl (by show 2 * 0 + _ ≤ _; exact Nat.le_of_eq rfl) (hb hby at_107) (fun _ _ => ⟨rfl, ek290, (by decide : 41 + 0 ≤ _), (by decide : 609 + 0 ≤ _)⟩)
        dsimp only [Pt.U, Pt.locs, Pt.cells, Pt.slots] at X291 l291 y291 z291 st291 hQ291
        subst l291 y291 z291
        obtain ⟨rfl, Nq291, ek291⟩ := hQ291
        have N291 := Fr.app N290 Nq291
        have f292 : Exa Z T287.heap b266 "com/example/beanloft/beanloft/naming/GlobalName" := (r278_0.keep Kq287)
        obtain ⟨T293, X293, e293, st293⟩ := castY X291 hx hZ hown (wd30 hw) ek291 (Ins.self f292) (g := (mkF mi 112 #[.val (.int x0), .val (.int x1), .val (.int x2), .val (.ref x_247), .val (.ref x_254), .val (.ref x_261), .val .null, .val (.ref b266), .val (.ref l__287)] [(.ref b266)])) rfl rfl (hb hby at_112)
        have f294 : Fld Z T287.heap b266 "com/example/beanloft/beanloft/naming/GlobalName" "appName" "Ljava/lang/String;" (.ref x_247) := (r278_1.keep Kq287 nin0)
        have f295 : Fld Z T287.heap b266 "com/example/beanloft/beanloft/naming/GlobalName" "moduleName" "Ljava/lang/String;" (.ref x_254) := (r278_2.keep Kq287 nin0)
        have f296 : Fld Z T287.heap b266 "com/example/beanloft/beanloft/naming/GlobalName" "beanName" "Ljava/lang/String;" (.ref x_261) := (r278_3.keep Kq287 nin0)
        have f297 : Fld Z T287.heap b266 "com/example/beanloft/beanloft/naming/GlobalName" "viewName" "Ljava/lang/String;" .null := (r278_4.keep Kq287 nin0)
        have f298 : LStr Z T287.heap x_247 t_247 ([ca] : List Int32) := (f284.keep Kq287 nin0 nin0)
        have f299 : Exa Z T287.heap x_247 "java/lang/String" := (f298).1
        have f300 : LStr Z T287.heap x_254 t_254 ([cm] : List Int32) := (f285.keep Kq287 nin0 nin0)
        have f301 : Exa Z T287.heap x_254 "java/lang/String" := (f300).1
        have f302 : LStr Z T287.heap x_261 t_261 ([cb] : List Int32) := (f286.keep Kq287 nin0 nin0)
        have f303 : Exa Z T287.heap x_261 "java/lang/String" := (f302).1
        obtain ⟨v304, _, ⟨T304, L304, k304, n304⟩, -, X304, ⟨Lc304, hQ304, l304, y304, z304⟩, st304⟩ := Jvm.LawKit.callS X293 hx (y := mn34) hown (mvT hZ (wd169 hw)) (mvT hZ (wd170 hw)) (mvT hZ (wd2 hw)) (mvT hZ (wd171 hw)) (by decide) (backOf (W := 0) (rm_same10 la Z a0 hw [] b266 x_247 x_254 x_261 T287.heap n0 O289 f292 f294 f295 f296 f297 f299 f301 f303) hZ (wd171 hw) (wd2 hw) (by decide) (by decide)) (g := (mkF mi 122 #[.val (.int x0), .val (.int x1), .val (.int x2), .val (.ref x_247), .val (.ref x_254), .val (.ref x_261), .val .null, .val (.ref b266), .val (.ref l__287)] [.null, (.ref x_261), (.ref x_254), (.ref x_247), (.ref b266)])) rfl (by rw [hml]; rfl) (argsL := [(.ref b266), (.ref x_247), (.ref x_254), (.ref x_261), .null]) (rest := []) (lenOf pd_25 rfl) rfl (by show 2 * 0 + _ ≤ _; exact Nat.le_of_eq rfl) (hb hby at_122) (fun _ _ => ⟨rfl, e293, (by decide : 41 + 0 ≤ _), (by decide : 609 + 0 ≤ _)⟩)
        dsimp only [Pt.U, Pt.locs, Pt.cells, Pt.slots] at X304 l304 y304 z304 st304 hQ304
        subst l304 y304 z304
        obtain ⟨rfl, Nq304, ek304⟩ := hQ304
        have N304 := Fr.app N291 Nq304
        obtain ⟨cq305, kq305, q305a, q305b, q305c⟩ := isOf hZ ek304 r287_0
        obtain ⟨v305, _, ⟨T305, L305, k305, n305⟩, -, X305, ⟨Lc305, hQ305, l305, y305, z305⟩, st305⟩ := X304.interfaceBack hx (xi := mn37) (y := mn27) hown (mvT hZ (wd160 hw)) (mvT hZ (wd161 hw)) (mvT hZ (wd162 hw)) (mvT hZ (wd163 hw)) (mvT hZ (wd164 hw)) (mvT hZ (wd165 hw)) (mvT hZ (wd166 hw)) (mvT hZ (wd158 hw)) (by decide) (backOf (W := 0) (rm_get1 la Z a0 hw [] l__287 g2_287 em T287.heap n0 O289 r287_2 D1_ (Ne.symm ne_em_g2_287)) hZ (wd167 hw) (wd118 hw) (by decide) (by decide)) q305a q305b q305c (g := (mkF mi 131 #[.val (.int x0), .val (.int x1), .val (.int x2), .val (.ref x_247), .val (.ref x_254), .val (.ref x_261), .val .null, .val (.ref b266), .val (.ref l__287)] [(.int (1 : Int32)), (.ref l__287)])) rfl (by rw [hml]; rfl) (Steps.refl _) (argsL := [(.int (1 : Int32))]) (rest := []) (lenOf pd_24 rfl) rfl (by show 2 * 0 + _ ≤ _; exact Nat.le_of_eq rfl) (hb hby at_131) (fun _ _ => ⟨rfl, ek304, (by decide : 41 + 0 ≤ _), (by decide : 609 + 0 ≤ _)⟩)
        dsimp only [Pt.U, Pt.locs, Pt.cells, Pt.slots] at X305 l305 y305 z305 st305 hQ305
        subst l305 y305 z305
        obtain ⟨rfl, Nq305, ek305⟩ := hQ305
        have N305 := Fr.app N304 Nq305
        obtain ⟨T306, X306, e306, st306⟩ := castY X305 hx hZ hown (wd30 hw) ek305 (Ins.self r287_3) (g := (mkF mi 136 #[.val (.int x0), .val (.int x1), .val (.int x2), .val (.ref x_247), .val (.ref x_254), .val (.ref x_261), .val .null, .val (.ref b266), .val (.ref l__287)] [(.ref g2_287)])) rfl rfl (hb hby at_136)
        obtain ⟨v307, _, ⟨T307, L307, k307, n307⟩, -, X307, ⟨Lc307, hQ307, l307, y307, z307⟩, st307⟩ := Jvm.LawKit.callS X306 hx (y := mn34) hown (mvT hZ (wd169 hw)) (mvT hZ (wd170 hw)) (mvT hZ (wd2 hw)) (mvT hZ (wd171 hw)) (by decide) (backOf (W := 0) (rm_same10 la Z a0 hw [] g2_287 x_247 x_254 x_261 T287.heap n0 O289 r287_3 r287_4 r287_5 r287_6 r287_7 f299 f301 f303) hZ (wd171 hw) (wd2 hw) (by decide) (by decide)) (g := (mkF mi 145 #[.val (.int x0), .val (.int x1), .val (.int x2), .val (.ref x_247), .val (.ref x_254), .val (.ref x_261), .val .null, .val (.ref b266), .val (.ref l__287)] [.null, (.ref x_261), (.ref x_254), (.ref x_247), (.ref g2_287)])) rfl (by rw [hml]; rfl) (argsL := [(.ref g2_287), (.ref x_247), (.ref x_254), (.ref x_261), .null]) (rest := []) (lenOf pd_25 rfl) rfl (by show 2 * 0 + _ ≤ _; exact Nat.le_of_eq rfl) (hb hby at_145) (fun _ _ => ⟨rfl, e306, (by decide : 41 + 0 ≤ _), (by decide : 609 + 0 ≤ _)⟩)
        dsimp only [Pt.U, Pt.locs, Pt.cells, Pt.slots] at X307 l307 y307 z307 st307 hQ307
        subst l307 y307 z307
        obtain ⟨rfl, Nq307, ek307⟩ := hQ307
        have N307 := Fr.app N305 Nq307
        obtain ⟨fs, hr, hrun, hended, hWe⟩ := X307.leaveW hS (show _ ≤ T307.heap.size by rw [ek307]; exact hk) (v := some (.int (1 : Int32))) (fun hq => by rw [Bd.returns] at hq; cases hq)
        refine ⟨_, _, pre281 _ ?_, hrun, hended, _, _, rfl, ?_, ?_, hWe.1, hWe.2.1, hWe.2.2.1, hWe.2.2.2.mono (by decide) (by decide)⟩
        · show Steps pg.tables ev below (T278.setTop (mkF mi 83 #[.val (.int x0), .val (.int x1), .val (.int x2), .val (.ref x_247), .val (.ref x_254), .val (.ref x_261), .val .null, .val (.ref b266), .unset] [(.int x0), (.ref b266)])) _
          refine st287.trans ?_
          show Steps pg.tables ev below (T287.setTop (mkF mi 86 #[.val (.int x0), .val (.int x1), .val (.int x2), .val (.ref x_247), .val (.ref x_254), .val (.ref x_261), .val .null, .val (.ref b266), .unset] [(.ref l__287)])) _
          refine XS.astore X287.here hx rfl (hb hby at_86) rfl rfl (l' := #[.val (.int x0), .val (.int x1), .val (.int x2), .val (.ref x_247), .val (.ref x_254), .val (.ref x_261), .val .null, .val (.ref b266), .val (.ref l__287)]) rfl ?_
          refine XS.iloadN X287.here hx rfl (hb hby at_88) rfl ?_
          refine XS.iconst X287.here hx rfl (hb hby at_89) ?_
          refine XS.icmpNo X287.here hx rfl (hb hby at_90) rfl (teq hc282).2 ?_
          refine XS.aload X287.here hx rfl (hb hby at_93) rfl rfl ?_
          show Steps pg.tables ev below (T287.setTop (mkF mi 95 #[.val (.int x0), .val (.int x1), .val (.int x2), .val (.ref x_247), .val (.ref x_254), .val (.ref x_261), .val .null, .val (.ref b266), .val (.ref l__287)] [(.ref l__287)])) _
          refine st290.trans ?_
          show Steps pg.tables ev below (T290.setTop (mkF mi 100 #[.val (.int x0), .val (.int x1), .val (.int x2), .val (.ref x_247), .val (.ref x_254), .val (.ref x_261), .val .null, .val (.ref b266), .val (.ref l__287)] [(.int (2 : Int32))])) _
          refine XS.iconst X290.here hx rfl (hb hby at_100) ?_
          refine XS.icmpNo X290.here hx rfl (hb hby at_101) rfl (teq (rfl : (2 : Int32) = (2 : Int32))).2 ?_
          refine XS.aload X290.here hx rfl (hb hby at_104) rfl rfl ?_
          refine XS.iconst X290.here hx rfl (hb hby at_106) ?_
          show Steps pg.tables ev below (T290.setTop (mkF mi 107 #[.val (.int x0), .val (.int x1), .val (.int x2), .val (.ref x_247), .val (.ref x_254), .val (.ref x_261), .val .null, .val (.ref b266), .val (.ref l__287)] [(.int (0 : Int32)), (.ref l__287)])) _
          refine st291.trans ?_
          show Steps pg.tables ev below (T291.setTop (mkF mi 112 #[.val (.int x0), .val (.int x1), .val (.int x2), .val (.ref x_247), .val (.ref x_254), .val (.ref x_261), .val .null, .val (.ref b266), .val (.ref l__287)] [(.ref b266)])) _
          refine st293 _ ?_
          show Steps pg.tables ev below (T293.setTop (mkF mi 115 #[.val (.int x0), .val (.int x1), .val (.int x2), .val (.ref x_247), .val (.ref x_254), .val (.ref x_261), .val .null, .val (.ref b266), .val (.ref l__287)] [(.ref b266)])) _
          refine XS.aloadN X293.here hx rfl (hb hby at_115) rfl rfl ?_
          refine XS.aload X293.here hx rfl (hb hby at_116) rfl rfl ?_
          refine XS.aload X293.here hx rfl (hb hby at_118) rfl rfl ?_
          refine XS.aload X293.here hx rfl (hb hby at_120) rfl rfl ?_
          show Steps pg.tables ev below (T293.setTop (mkF mi 122 #[.val (.int x0), .val (.int x1), .val (.int x2), .val (.ref x_247), .val (.ref x_254), .val (.ref x_261), .val .null, .val (.ref b266), .val (.ref l__287)] [.null, (.ref x_261), (.ref x_254), (.ref x_247), (.ref b266)])) _
          refine st304 _ ?_
          show Steps pg.tables ev below (T304.setTop (mkF mi 125 #[.val (.int x0), .val (.int x1), .val (.int x2), .val (.ref x_247), .val (.ref x_254), .val (.ref x_261), .val .null, .val (.ref b266), .val (.ref l__287)] [(.int (1 : Int32))])) _
          refine XS.ifNo X304.here hx rfl (hb hby at_125) rfl ((if0 _ _).trans (feq (by decide : ¬ ((1 : Int32) = (0 : Int32)))).1) ?_
          refine XS.aload X304.here hx rfl (hb hby at_128) rfl rfl ?_
          refine XS.iconst X304.here hx rfl (hb hby at_130) ?_
          show Steps pg.tables ev below (T304.setTop (mkF mi 131 #[.val (.int x0), .val (.int x1), .val (.int x2), .val (.ref x_247), .val (.ref x_254), .val (.ref x_261), .val .null, .val (.ref b266), .val (.ref l__287)] [(.int (1 : Int32)), (.ref l__287)])) _
          refine st305.trans ?_
          show Steps pg.tables ev below (T305.setTop (mkF mi 136 #[.val (.int x0), .val (.int x1), .val (.int x2), .val (.ref x_247), .val (.ref x_254), .val (.ref x_261), .val .null, .val (.ref b266), .val (.ref l__287)] [(.ref g2_287)])) _
          refine st306 _ ?_
          show Steps pg.tables ev below (T306.setTop (mkF mi 139 #[.val (.int x0), .val (.int x1), .val (.int x2), .val (.ref x_247), .val (.ref x_254), .val (.ref x_261), .val .null, .val (.ref b266), .val (.ref l__287)] [(.ref g2_287)])) _
          refine XS.aloadN X306.here hx rfl (hb hby at_139) rfl rfl ?_
          refine XS.aload X306.here hx rfl (hb hby at_140) rfl rfl ?_
          refine XS.aload X306.here hx rfl (hb hby at_142) rfl rfl ?_
          refine XS.aconstNull X306.here hx rfl (hb hby at_144) ?_
          show Steps pg.tables ev below (T306.setTop (mkF mi 145 #[.val (.int x0), .val (.int x1), .val (.int x2), .val (.ref x_247), .val (.ref x_254), .val (.ref x_261), .val .null, .val (.ref b266), .val (.ref l__287)] [.null, (.ref x_261), (.ref x_254), (.ref x_247), (.ref g2_287)])) _
          refine st307 _ ?_
          show Steps pg.tables ev below (T307.setTop (mkF mi 148 #[.val (.int x0), .val (.int x1), .val (.int x2), .val (.ref x_247), .val (.ref x_254), .val (.ref x_261), .val .null, .val (.ref b266), .val (.ref l__287)] [(.int (1 : Int32))])) _
          refine XS.ifNo X307.here hx rfl (hb hby at_148) rfl ((if0 _ _).trans (feq (by decide : ¬ ((1 : Int32) = (0 : Int32)))).1) ?_
          refine XS.iconst X307.here hx rfl (hb hby at_151) ?_
          refine XS.goto X307.here hx rfl (pc0 := 152) (pc' := 156) rfl (hb hby at_152) (by decide) (by decide) ?_
          show Steps pg.tables ev below (T307.setTop (mkF mi 156 #[.val (.int x0), .val (.int x1), .val (.int x2), .val (.ref x_247), .val (.ref x_254), .val (.ref x_261), .val .null, .val (.ref b266), .val (.ref l__287)] [(.int (1 : Int32))])) _
          exact retN X307 hx (t := .boolean) Bd.returns (by simp) (hb hby at_156) hr
        · show Q_law Z x0 x1 x2 zc em hE n0 _ T307.heap _
          rw [ek307]
          exact ⟨rfl, N307⟩
        · show CHr Z ELs sb.vm sb.heap T307.vm T307.heap
          rw [hh, ek307]
          exact CHr.trans C288 (CHv.at X307 hZ hEL C288.1)
      · have O308 : Old Z n0 T278.heap := (O273.keep Kq278 (allS g_b266 all0))
        have f309 : LStr Z T278.heap x_247 t_247 ([ca] : List Int32) := (f274.keep Kq278 (ninS ne_x_247_b266 nin0) (ninS ne_t_247_b266 nin0))
        have f310 : LStr Z T278.heap x_254 t_254 ([cm] : List Int32) := (f275.keep Kq278 (ninS ne_x_254_b266 nin0) (ninS ne_t_254_b266 nin0))
        have f311 : LStr Z T278.heap x_261 t_261 ([cb] : List Int32) := (f276.keep Kq278 (ninS ne_x_261_b266 nin0) (ninS ne_t_261_b266 nin0))
        obtain ⟨cq312, kq312, q312a, q312b, q312c⟩ := isOf hZ rfl r278_0
        obtain ⟨v312, _, ⟨T312, L312, k312, n312⟩, -, X312, s312, gr312, ⟨Lc312, hQ312, l312, y312, z312, c312⟩, st312⟩ := X278.virtualBackS hx (y := mn35) (z := mn35) hown (mvT hZ (wd107 hw)) (mvT hZ (wd108 hw)) (notFace_of_selects (args := #[]) (mvT hZ (wd110 hw))) (mvT hZ (wd110 hw)) (mvT hZ (wd109 hw)) (by decide) (backOfSH (W := 0) (rm_fo10 la Z a0 hw [] b266 x0 x_247 t_247 ca x_254 t_254 cm x_261 t_261 cb zc em T278.heap n0 O308 r278_0 r278_1 r278_2 r278_3 f309 f310 f311 D0_ D1_ (hzc : ¬ (zc = (0 : Int32))) (hc282 : ¬ (x0 = (1 : Int32)))) hZ (wd111 hw) (wd32 hw) (by decide) (by decide) hEL C280.1) q312a q312c (g := (mkF mi 83 #[.val (.int x0), .val (.int x1), .val (.int x2), .val (.ref x_247), .val (.ref x_254), .val (.ref x_261), .val .null, .val (.ref b266), .unset] [(.int x0), (.ref b266)])) rfl (by rw [hml]; rfl) (Steps.refl _) (argsL := [(.int x0)]) (rest := []) (lenOf pd_22 rfl) rfl (by show 2 * 0 + _ ≤ _; exact Nat.le_of_eq rfl) (hb hby at_83) (fun _ _ => ⟨rfl, rfl, (by decide : 23 + 1 ≤ _), (by decide : 311 + 2 ≤ _)⟩)
        dsimp only [Pt.U, Pt.locs, Pt.cells, Pt.slots] at X312 s312 gr312 l312 y312 z312 c312 st312 hQ312
        subst l312 y312 z312
        obtain ⟨X312, hS, hZ, hown⟩ := rebS hS (show _ ≤ T278.heap.size from hk) X312 s312 gr312 hZ hown
        have hk : T312.heap.size ≤ T312.heap.size := Nat.le_refl _
        obtain ⟨l__312, rfl, Nq312, Kq312, fr_l__312, r312_0, r312_1, r312_2⟩ := hQ312
        have N312 := Fr.app N278 Nq312
        have C313 := CHr.trans C280 c312
        have O314 : Old Z n0 T312.heap := (O308.keep Kq312 all0)
        obtain ⟨cq315, kq315, q315a, q315b, q315c⟩ := isOf hZ rfl r312_0
        obtain ⟨v315, _, ⟨T315, L315, k315, n315⟩, -, X315, ⟨Lc315, hQ315, l315, y315, z315⟩, st315⟩ := X312.interfaceBack hx (xi := mn36) (y := mn26) hown (mvT hZ (wd151 hw)) (mvT hZ (wd152 hw)) (mvT hZ (wd153 hw)) (mvT hZ (wd154 hw)) (mvT hZ (wd155 hw)) (mvT hZ (wd156 hw)) (mvT hZ (wd157 hw)) (mvT hZ (wd158 hw)) (by decide) (backOf (W := 0) (rm_sz1 la Z a0 hw [] l__312 em T312.heap n0 O314 r312_2 D1_) hZ (wd159 hw) (wd118 hw) (by decide) (by decide)) q315a q315b q315c (g := (mkF mi 159 #[.val (.int x0), .val (.int x1), .val (.int x2), .val (.ref x_247), .val (.ref x_254), .val (.ref x_261), .val .null, .val (.ref b266), .val (.ref l__312)] [(.ref l__312)])) rfl (by rw [hml]; rfl) (Steps.refl _) (argsL := []) (rest := []) (lenOf pd_23 rfl) rfl (by show 2 * 0 + _ ≤ _; exact Nat.le_of_eq rfl) (hb hby at_159) (fun _ _ => ⟨rfl, rfl, (by decide : 24 + 0 ≤ _), (by decide : 313 + 0 ≤ _)⟩)
        dsimp only [Pt.U, Pt.locs, Pt.cells, Pt.slots] at X315 l315 y315 z315 st315 hQ315
        subst l315 y315 z315
        obtain ⟨rfl, Nq315, ek315⟩ := hQ315
        have N315 := Fr.app N312 Nq315
        obtain ⟨cq316, kq316, q316a, q316b, q316c⟩ := isOf hZ ek315 r312_0
        obtain ⟨v316, _, ⟨T316, L316, k316, n316⟩, -, X316, ⟨Lc316, hQ316, l316, y316, z316⟩, st316⟩ := X315.interfaceBack hx (xi := mn37) (y := mn27) hown (mvT hZ (wd160 hw)) (mvT hZ (wd161 hw)) (mvT hZ (wd162 hw)) (mvT hZ (wd163 hw)) (mvT hZ (wd164 hw)) (mvT hZ (wd165 hw)) (mvT hZ (wd166 hw)) (mvT hZ (wd158 hw)) (by decide) (backOf (W := 0) (rm_get0 la Z a0 hw [] l__312 b266 T312.heap n0 O314 r312_1) hZ (wd167 hw) (wd118 hw) (by decide) (by decide)) q316a q316b q316c (g := (mkF mi 171 #[.val (.int x0), .val (.int x1), .val (.int x2), .val (.ref x_247), .val (.ref x_254), .val (.ref x_261), .val .null, .val (.ref b266), .val (.ref l__312)] [(.int (0 : Int32)), (.ref l__312)])) rfl (by rw [hml]; rfl) (Steps.refl _) (argsL := [(.int (0 : Int32))]) (rest := []) (lenOf pd_24 rfl) rfl (by show 2 * 0 + _ ≤ _; exact Nat.le_of_eq rfl) (hb hby at_171) (fun _ _ => ⟨rfl, ek315, (by decide : 24 + 0 ≤ _), (by decide : 313 + 0 ≤ _)⟩)
        dsimp only [Pt.U, Pt.locs, Pt.cells, Pt.slots] at X316 l316 y316 z316 st316 hQ316
        subst l316 y316 z316
        obtain ⟨rfl, Nq316, ek316⟩ := hQ316
        have N316 := Fr.app N315 Nq316
        have f317 : Exa Z T312.heap b266 "com/example/beanloft/beanloft/naming/GlobalName" := (r278_0.keep Kq312)
        obtain ⟨T318, X318, e318, st318⟩ := castY X316 hx hZ hown (wd30 hw) ek316 (Ins.self f317) (g := (mkF mi 176 #[.val (.int x0), .val (.int x1), .val (.int x2), .val (.ref x_247), .val (.ref x_254), .val (.ref x_261), .val .null, .val (.ref b266), .val (.ref l__312)] [(.ref b266)])) rfl rfl (hb hby at_176)
        have f319 : Fld Z T312.heap b266 "com/example/beanloft/beanloft/naming/GlobalName" "appName" "Ljava/lang/String;" (.ref x_247) := (r278_1.keep Kq312 nin0)
        have f320 : Fld Z T312.heap b266 "com/example/beanloft/beanloft/naming/GlobalName" "moduleName" "Ljava/lang/String;" (.ref x_254) := (r278_2.keep Kq312 nin0)
        have f321 : Fld Z T312.heap b266 "com/example/beanloft/beanloft/naming/GlobalName" "beanName" "Ljava/lang/String;" (.ref x_261) := (r278_3.keep Kq312 nin0)
        have f322 : Fld Z T312.heap b266 "com/example/beanloft/beanloft/naming/GlobalName" "viewName" "Ljava/lang/String;" .null := (r278_4.keep Kq312 nin0)
        have f323 : LStr Z T312.heap x_247 t_247 ([ca] : List Int32) := (f309.keep Kq312 nin0 nin0)
        have f324 : Exa Z T312.heap x_247 "java/lang/String" := (f323).1
        have f325 : LStr Z T312.heap x_254 t_254 ([cm] : List Int32) := (f310.keep Kq312 nin0 nin0)
        have f326 : Exa Z T312.heap x_254 "java/lang/String" := (f325).1
        have f327 : LStr Z T312.heap x_261 t_261 ([cb] : List Int32) := (f311.keep Kq312 nin0 nin0)
        have f328 : Exa Z T312.heap x_261 "java/lang/String" := (f327).1
        obtain ⟨v329, _, ⟨T329, L329, k329, n329⟩, -, X329, ⟨Lc329, hQ329, l329, y329, z329⟩, st329⟩ := Jvm.LawKit.callS X318 hx (y := mn34) hown (mvT hZ (wd169 hw)) (mvT hZ (wd170 hw)) (mvT hZ (wd2 hw)) (mvT hZ (wd171 hw)) (by decide) (backOf (W := 0) (rm_same10 la Z a0 hw [] b266 x_247 x_254 x_261 T312.heap n0 O314 f317 f319 f320 f321 f322 f324 f326 f328) hZ (wd171 hw) (wd2 hw) (by decide) (by decide)) (g := (mkF mi 186 #[.val (.int x0), .val (.int x1), .val (.int x2), .val (.ref x_247), .val (.ref x_254), .val (.ref x_261), .val .null, .val (.ref b266), .val (.ref l__312)] [.null, (.ref x_261), (.ref x_254), (.ref x_247), (.ref b266)])) rfl (by rw [hml]; rfl) (argsL := [(.ref b266), (.ref x_247), (.ref x_254), (.ref x_261), .null]) (rest := []) (lenOf pd_25 rfl) rfl (by show 2 * 0 + _ ≤ _; exact Nat.le_of_eq rfl) (hb hby at_186) (fun _ _ => ⟨rfl, e318, (by decide : 24 + 0 ≤ _), (by decide : 313 + 0 ≤ _)⟩)
        dsimp only [Pt.U, Pt.locs, Pt.cells, Pt.slots] at X329 l329 y329 z329 st329 hQ329
        subst l329 y329 z329
        obtain ⟨rfl, Nq329, ek329⟩ := hQ329
        have N329 := Fr.app N316 Nq329
        obtain ⟨fs, hr, hrun, hended, hWe⟩ := X329.leaveW hS (show _ ≤ T329.heap.size by rw [ek329]; exact hk) (v := some (.int (1 : Int32))) (fun hq => by rw [Bd.returns] at hq; cases hq)
        refine ⟨_, _, pre281 _ ?_, hrun, hended, _, _, rfl, ?_, ?_, hWe.1, hWe.2.1, hWe.2.2.1, hWe.2.2.2.mono (by decide) (by decide)⟩
        · show Steps pg.tables ev below (T278.setTop (mkF mi 83 #[.val (.int x0), .val (.int x1), .val (.int x2), .val (.ref x_247), .val (.ref x_254), .val (.ref x_261), .val .null, .val (.ref b266), .unset] [(.int x0), (.ref b266)])) _
          refine st312.trans ?_
          show Steps pg.tables ev below (T312.setTop (mkF mi 86 #[.val (.int x0), .val (.int x1), .val (.int x2), .val (.ref x_247), .val (.ref x_254), .val (.ref x_261), .val .null, .val (.ref b266), .unset] [(.ref l__312)])) _
          refine XS.astore X312.here hx rfl (hb hby at_86) rfl rfl (l' := #[.val (.int x0), .val (.int x1), .val (.int x2), .val (.ref x_247), .val (.ref x_254), .val (.ref x_261), .val .null, .val (.ref b266), .val (.ref l__312)]) rfl ?_
          refine XS.iloadN X312.here hx rfl (hb hby at_88) rfl ?_
          refine XS.iconst X312.here hx rfl (hb hby at_89) ?_
          refine XS.icmpYes X312.here hx rfl (pc0 := 90) (pc' := 157) rfl (hb hby at_90) rfl (feq hc282).2 (by decide) (by decide) ?_
          refine XS.aload X312.here hx rfl (hb hby at_157) rfl rfl ?_
          show Steps pg.tables ev below (T312.setTop (mkF mi 159 #[.val (.int x0), .val (.int x1), .val (.int x2), .val (.ref x_247), .val (.ref x_254), .val (.ref x_261), .val .null, .val (.ref b266), .val (.ref l__312)] [(.ref l__312)])) _
          refine st315.trans ?_
          show Steps pg.tables ev below (T315.setTop (mkF mi 164 #[.val (.int x0), .val (.int x1), .val (.int x2), .val (.ref x_247), .val (.ref x_254), .val (.ref x_261), .val .null, .val (.ref b266), .val (.ref l__312)] [(.int (1 : Int32))])) _
          refine XS.iconst X315.here hx rfl (hb hby at_164) ?_
          refine XS.icmpNo X315.here hx rfl (hb hby at_165) rfl (teq (rfl : (1 : Int32) = (1 : Int32))).2 ?_
          refine XS.aload X315.here hx rfl (hb hby at_168) rfl rfl ?_
          refine XS.iconst X315.here hx rfl (hb hby at_170) ?_
          show Steps pg.tables ev below (T315.setTop (mkF mi 171 #[.val (.int x0), .val (.int x1), .val (.int x2), .val (.ref x_247), .val (.ref x_254), .val (.ref x_261), .val .null, .val (.ref b266), .val (.ref l__312)] [(.int (0 : Int32)), (.ref l__312)])) _
          refine st316.trans ?_
          show Steps pg.tables ev below (T316.setTop (mkF mi 176 #[.val (.int x0), .val (.int x1), .val (.int x2), .val (.ref x_247), .val (.ref x_254), .val (.ref x_261), .val .null, .val (.ref b266), .val (.ref l__312)] [(.ref b266)])) _
          refine st318 _ ?_
          show Steps pg.tables ev below (T318.setTop (mkF mi 179 #[.val (.int x0), .val (.int x1), .val (.int x2), .val (.ref x_247), .val (.ref x_254), .val (.ref x_261), .val .null, .val (.ref b266), .val (.ref l__312)] [(.ref b266)])) _
          refine XS.aloadN X318.here hx rfl (hb hby at_179) rfl rfl ?_
          refine XS.aload X318.here hx rfl (hb hby at_180) rfl rfl ?_
          refine XS.aload X318.here hx rfl (hb hby at_182) rfl rfl ?_
          refine XS.aload X318.here hx rfl (hb hby at_184) rfl rfl ?_
          show Steps pg.tables ev below (T318.setTop (mkF mi 186 #[.val (.int x0), .val (.int x1), .val (.int x2), .val (.ref x_247), .val (.ref x_254), .val (.ref x_261), .val .null, .val (.ref b266), .val (.ref l__312)] [.null, (.ref x_261), (.ref x_254), (.ref x_247), (.ref b266)])) _
          refine st329 _ ?_
          show Steps pg.tables ev below (T329.setTop (mkF mi 189 #[.val (.int x0), .val (.int x1), .val (.int x2), .val (.ref x_247), .val (.ref x_254), .val (.ref x_261), .val .null, .val (.ref b266), .val (.ref l__312)] [(.int (1 : Int32))])) _
          refine XS.ifNo X329.here hx rfl (hb hby at_189) rfl ((if0 _ _).trans (feq (by decide : ¬ ((1 : Int32) = (0 : Int32)))).1) ?_
          refine XS.iconst X329.here hx rfl (hb hby at_192) ?_
          refine XS.goto X329.here hx rfl (pc0 := 193) (pc' := 197) rfl (hb hby at_193) (by decide) (by decide) ?_
          show Steps pg.tables ev below (T329.setTop (mkF mi 197 #[.val (.int x0), .val (.int x1), .val (.int x2), .val (.ref x_247), .val (.ref x_254), .val (.ref x_261), .val .null, .val (.ref b266), .val (.ref l__312)] [(.int (1 : Int32))])) _
          exact retN X329 hx (t := .boolean) Bd.returns (by simp) (hb hby at_197) hr
        · show Q_law Z x0 x1 x2 zc em hE n0 _ T329.heap _
          rw [ek329]
          exact ⟨rfl, N329⟩
        · show CHr Z ELs sb.vm sb.heap T329.vm T329.heap
          rw [hh, ek329]
          exact CHr.trans C313 (CHv.at X329 hZ hEL C313.1)
    · have O330 : Old Z n0 T261.heap := (O257.keep Kq261 all0)
      obtain ⟨v331, _, ⟨T331, L331, k331, n331⟩, -, X331, ⟨Lc331, hQ331, l331, y331, z331⟩, st331⟩ := Jvm.LawKit.callS X261 hx (y := mn0) hown (mvT hZ (wd0 hw)) (mvT hZ (wd1 hw)) (mvT hZ (wd2 hw)) (mvT hZ (wd3 hw)) (by decide) (backOf (W := 0) (rm_chc la Z a0 hw [] ((x1.toUInt32 >>> ((24 : Int32) &&& 31).toUInt32).toInt32) T261.heap n0 O330) hZ (wd3 hw) (wd2 hw) (by decide) (by decide)) (g := (mkF mi 52 #[.val (.int x0), .val (.int x1), .val (.int x2), .val (.ref x_247), .val (.ref x_254), .val (.ref x_261), .unset, .unset, .unset] [(.int ((x1.toUInt32 >>> ((24 : Int32) &&& 31).toUInt32).toInt32))])) rfl (by rw [hml]; rfl) (argsL := [(.int ((x1.toUInt32 >>> ((24 : Int32) &&& 31).toUInt32).toInt32))]) (rest := []) (lenOf pd_20 rfl) rfl (by show 2 * 0 + _ ≤ _; exact Nat.le_of_eq rfl) (hb hby at_52) (fun _ _ => ⟨rfl, rfl, (by decide : 6 + 0 ≤ _), (by decide : 15 + 0 ≤ _)⟩)
      dsimp only [Pt.U, Pt.locs, Pt.cells, Pt.slots] at X331 l331 y331 z331 st331 hQ331
      subst l331 y331 z331
      obtain ⟨rfl, Nq331, ek331⟩ := hQ331
      have N331 := Fr.app N261 Nq331
      obtain ⟨cv, he_cv⟩ : ∃ z, z = (chF ((x1.toUInt32 >>> ((24 : Int32) &&& 31).toUInt32).toInt32)) := ⟨_, rfl⟩
      have pre332 : ∀ tt, Steps pg.tables ev below (T331.setTop (mkF mi 55 #[.val (.int x0), .val (.int x1), .val (.int x2), .val (.ref x_247), .val (.ref x_254), .val (.ref x_261), .unset, .unset, .unset] [(.int (chF ((x1.toUInt32 >>> ((24 : Int32) &&& 31).toUInt32).toInt32)))])) tt → Steps pg.tables ev below (s₁.setTop (entryFrame mi #[(.int x0), (.int x1), (.int x2)] maxLocals)) tt := fun tt kk => pre265 _ (by
        show Steps pg.tables ev below (T261.setTop (mkF mi 45 #[.val (.int x0), .val (.int x1), .val (.int x2), .val (.ref x_247), .val (.ref x_254), .val (.ref x_261), .unset, .unset, .unset] [(.int (x2 &&& (2 : Int32)))])) _
        refine XS.ifNo X261.here hx rfl (hb hby at_45) rfl ((if0 _ _).trans (feq hc264).1) ?_
        refine XS.iloadN X261.here hx rfl (hb hby at_48) rfl ?_
        refine XS.bipush X261.here hx rfl (hb hby at_49) ?_
        refine XS.iushr X261.here hx rfl (hb hby at_51) rfl ?_
        show Steps pg.tables ev below (T261.setTop (mkF mi 52 #[.val (.int x0), .val (.int x1), .val (.int x2), .val (.ref x_247), .val (.ref x_254), .val (.ref x_261), .unset, .unset, .unset] [(.int ((x1.toUInt32 >>> ((24 : Int32) &&& 31).toUInt32).toInt32))])) _
        refine st331 _ ?_
        exact kk)
      have pre333 : ∀ tt, Steps pg.tables ev below (T331.setTop (mkF mi 55 #[.val (.int x0), .val (.int x1), .val (.int x2), .val (.ref x_247), .val (.ref x_254), .val (.ref x_261), .unset, .unset, .unset] [(.int cv)])) tt → Steps pg.tables ev below (s₁.setTop (entryFrame mi #[(.int x0), (.int x1), (.int x2)] maxLocals)) tt := fun tt kk => pre332 tt (by rw [← he_cv]; exact kk)
      have o_cv : ¬ (cv < (0 : Int32)) ∧ ¬ ((255 : Int32) < cv) ∧ ¬ (cv = (47 : Int32)) ∧ ¬ (cv = (33 : Int32)) := he_cv ▸ own_chB _
      have z_cv : ¬ (cv < (0 : Int32)) := o_cv.1
      have y_cv : ¬ ((255 : Int32) < cv) := o_cv.2.1
      have s47_cv : ¬ ((cv.toInt8.toInt32) = (47 : Int32)) := own_ch_byte z_cv y_cv (by decide) o_cv.2.2.1
      have s33_cv : ¬ ((cv.toInt8.toInt32) = (33 : Int32)) := own_ch_byte z_cv y_cv (by decide) o_cv.2.2.2
      obtain ⟨v334, _, ⟨T334, L334, k334, n334⟩, -, X334, ⟨Lc334, hQ334, l334, y334, z334⟩, st334⟩ := Jvm.LawKit.callS X331 hx (y := mn4) hown (mvT hZ (wd4 hw)) (mvT hZ (wd5 hw)) (mvT hZ (wd6 hw)) (mvT hZ (wd7 hw)) (by decide) (backOf (W := 0) (rm_vof la Z a0 hw [] cv zc T261.heap n0 O330 D0_ (y_cv : ¬ ((255 : Int32) < cv)) (z_cv : ¬ (cv < (0 : Int32))) (hzc : ¬ (zc = (0 : Int32)))) hZ (wd7 hw) (wd6 hw) (by decide) (by decide)) (g := (mkF mi 55 #[.val (.int x0), .val (.int x1), .val (.int x2), .val (.ref x_247), .val (.ref x_254), .val (.ref x_261), .unset, .unset, .unset] [(.int cv)])) rfl (by rw [hml]; rfl) (argsL := [(.int cv)]) (rest := []) (lenOf pd_21 rfl) rfl (by show 2 * 0 + _ ≤ _; exact Nat.le_of_eq rfl) (hb hby at_55) (fun _ _ => ⟨rfl, ek331, (by decide : 6 + 2 ≤ _), (by decide : 15 + 5 ≤ _)⟩)
      dsimp only [Pt.U, Pt.locs, Pt.cells, Pt.slots] at X334 l334 y334 z334 st334 hQ334
      subst l334 y334 z334
      obtain ⟨x_334, t_334, rfl, Nq334, Kq334, fr_x_334, fr_t_334, r334_0⟩ := hQ334
      have N334 := Fr.app N331 Nq334
      have c335 := CHr.keep Kq334 sf0 C263.1
      have C336 := CHr.trans C263 c335
      obtain ⟨T337, h337, X337, e337, E337, A337, D337, -, st337⟩ := newO X334 hx hZ hown (wd30 hw) (wd31 hw) (wd32 hw) rfl (g := (mkF mi 64 #[.val (.int x0), .val (.int x1), .val (.int x2), .val (.ref x_247), .val (.ref x_254), .val (.ref x_261), .val (.ref x_334), .unset, .unset] [])) rfl (hb hby at_64) (by decide) (by decide)
      obtain ⟨b337, q337⟩ : ∃ z, z = T334.heap.size := ⟨_, rfl⟩
      rw [← q337] at A337 D337 st337
      have c338 := CHr.ext E337 C336.1
      have C339 := CHr.trans C336 c338
      have f340 : Fld Z h337 b337 "com/example/beanloft/beanloft/naming/GlobalName" "appName" "Ljava/lang/String;" .null := D337 (Or.inr (wd100 hw)) (ty := (.object "java/lang/String")) (by decide)
      have f341 : Fld Z h337 b337 "com/example/beanloft/beanloft/naming/GlobalName" "moduleName" "Ljava/lang/String;" .null := D337 (Or.inr (wd102 hw)) (ty := (.object "java/lang/String")) (by decide)
      have f342 : Fld Z h337 b337 "com/example/beanloft/beanloft/naming/GlobalName" "beanName" "Ljava/lang/String;" .null := D337 (Or.inr (wd104 hw)) (ty := (.object "java/lang/String")) (by decide)
      have f343 : Fld Z h337 b337 "com/example/beanloft/beanloft/naming/GlobalName" "viewName" "Ljava/lang/String;" .null := D337 (Or.inr (wd106 hw)) (ty := (.object "java/lang/String")) (by decide)
      have O344 : Old Z n0 h337 := ((O330.keep Kq334 all0).ext E337)
      have f345 : LStr Z h337 x_247 t_247 ([ca] : List Int32) := ((((r247_0.keep Kq254 nin0 nin0).keep Kq261 nin0 nin0).keep Kq334 nin0 nin0).ext E337)
      have f346 : LStr Z h337 x_254 t_254 ([cm] : List Int32) := (((r254_0.keep Kq261 nin0 nin0).keep Kq334 nin0 nin0).ext E337)
      have f347 : LStr Z h337 x_261 t_261 ([cb] : List Int32) := ((r261_0.keep Kq334 nin0 nin0).ext E337)
      have f348 : LStr Z h337 x_334 t_334 ([cv] : List Int32) := (r334_0.ext E337)
      have O349 : Old Z n0 T334.heap := (O330.keep Kq334 all0)
      have g_b337 : n0 ≤ b337 := Nat.le_trans (Nat.le_trans (Nat.le_of_eq O349.1.symm) O349.2.1) (Nat.le_of_eq q337.symm)
      have ne_x_247_b337 : x_247 ≠ b337 := Nat.ne_of_lt (Nat.lt_of_lt_of_le r247_0.lt (Nat.le_trans (Nat.le_trans (Nat.le_trans Kq254.1 Kq261.1) Kq334.1) (Nat.le_of_eq q337.symm)))
      have ne_t_247_b337 : t_247 ≠ b337 := Nat.ne_of_lt (Nat.lt_of_lt_of_le r247_0.ltt (Nat.le_trans (Nat.le_trans (Nat.le_trans Kq254.1 Kq261.1) Kq334.1) (Nat.le_of_eq q337.symm)))
      have ne_x_254_b337 : x_254 ≠ b337 := Nat.ne_of_lt (Nat.lt_of_lt_of_le r254_0.lt (Nat.le_trans (Nat.le_trans Kq261.1 Kq334.1) (Nat.le_of_eq q337.symm)))
      have ne_t_254_b337 : t_254 ≠ b337 := Nat.ne_of_lt (Nat.lt_of_lt_of_le r254_0.ltt (Nat.le_trans (Nat.le_trans Kq261.1 Kq334.1) (Nat.le_of_eq q337.symm)))
      have ne_x_261_b337 : x_261 ≠ b337 := Nat.ne_of_lt (Nat.lt_of_lt_of_le r261_0.lt (Nat.le_trans Kq334.1 (Nat.le_of_eq q337.symm)))
      have ne_t_261_b337 : t_261 ≠ b337 := Nat.ne_of_lt (Nat.lt_of_lt_of_le r261_0.ltt (Nat.le_trans Kq334.1 (Nat.le_of_eq q337.symm)))
      have ne_x_334_b337 : x_334 ≠ b337 := Nat.ne_of_lt (Nat.lt_of_lt_of_le r334_0.lt (Nat.le_trans (Nat.le_refl _) (Nat.le_of_eq q337.symm)))
      have ne_t_334_b337 : t_334 ≠ b337 := Nat.ne_of_lt (Nat.lt_of_lt_of_le r334_0.ltt (Nat.le_trans (Nat.le_refl _) (Nat.le_of_eq q337.symm)))
      have pre351 : ∀ tt, Steps pg.tables ev below (T337.setTop (mkF mi 75 #[.val (.int x0), .val (.int x1), .val (.int x2), .val (.ref x_247), .val (.ref x_254), .val (.ref x_261), .val (.ref x_334), .unset, .unset] [(.ref x_334), (.ref x_261), (.ref x_254), (.ref x_247), (.ref b337), (.ref b337)])) tt → Steps pg.tables ev below (s₁.setTop (entryFrame mi #[(.int x0), (.int x1), (.int x2)] maxLocals)) tt := fun tt kk => pre333 _ (by
        show Steps pg.tables ev below (T331.setTop (mkF mi 55 #[.val (.int x0), .val (.int x1), .val (.int x2), .val (.ref x_247), .val (.ref x_254), .val (.ref x_261), .unset, .unset, .unset] [(.int cv)])) _
        refine st334 _ ?_
        show Steps pg.tables ev below (T334.setTop (mkF mi 58 #[.val (.int x0), .val (.int x1), .val (.int x2), .val (.ref x_247), .val (.ref x_254), .val (.ref x_261), .unset, .unset, .unset] [(.ref x_334)])) _
        refine XS.goto X334.here hx rfl (pc0 := 58) (pc' := 62) rfl (hb hby at_58) (by decide) (by decide) ?_
        refine XS.astore X334.here hx rfl (hb hby at_62) rfl rfl (l' := #[.val (.int x0), .val (.int x1), .val (.int x2), .val (.ref x_247), .val (.ref x_254), .val (.ref x_261), .val (.ref x_334), .unset, .unset]) rfl ?_
        show Steps pg.tables ev below (T334.setTop (mkF mi 64 #[.val (.int x0), .val (.int x1), .val (.int x2), .val (.ref x_247), .val (.ref x_254), .val (.ref x_261), .val (.ref x_334), .unset, .unset] [])) _
        refine st337 _ ?_
        show Steps pg.tables ev below (T337.setTop (mkF mi 67 #[.val (.int x0), .val (.int x1), .val (.int x2), .val (.ref x_247), .val (.ref x_254), .val (.ref x_261), .val (.ref x_334), .unset, .unset] [(.ref b337)])) _
        refine XS.dup X337.here hx rfl (hb hby at_67) rfl rfl ?_
        refine XS.aloadN X337.here hx rfl (hb hby at_68) rfl rfl ?_
        refine XS.aload X337.here hx rfl (hb hby at_69) rfl rfl ?_
        refine XS.aload X337.here hx rfl (hb hby at_71) rfl rfl ?_
        refine XS.aload X337.here hx rfl (hb hby at_73) rfl rfl ?_
        exact kk)
      obtain ⟨v350, _, ⟨T350, L350, k350, n350⟩, -, X350, s350, gr350, ⟨Lc350, hQ350, l350, y350, z350, c350⟩, st350⟩ := X337.specialBackS hx (y := mn17) rfl hown (mvT hZ (wd33 hw)) (mvT hZ (wd34 hw)) (mvT hZ (wd35 hw)) (by decide) (backOfSH (W := 1) (rm_gin1111 la Z a0 hw [] b337 x_247 t_247 ca x_254 t_254 cm x_261 t_261 cb x_334 t_334 cv zc h337 n0 O344 A337 f340 f341 f342 f343 f345 f346 f347 f348 D0_ g_b337 ne_x_247_b337 ne_t_247_b337 ne_x_254_b337 ne_t_254_b337 ne_x_261_b337 ne_t_261_b337 ne_x_334_b337 ne_t_334_b337 (s47_ca : ¬ ((ca.toInt8.toInt32) = (47 : Int32))) (s33_ca : ¬ ((ca.toInt8.toInt32) = (33 : Int32))) (s47_cm : ¬ ((cm.toInt8.toInt32) = (47 : Int32))) (s33_cm : ¬ ((cm.toInt8.toInt32) = (33 : Int32))) (s47_cb : ¬ ((cb.toInt8.toInt32) = (47 : Int32))) (s33_cb : ¬ ((cb.toInt8.toInt32) = (33 : Int32))) (s47_cv : ¬ ((cv.toInt8.toInt32) = (47 : Int32))) (s33_cv : ¬ ((cv.toInt8.toInt32) = (33 : Int32))) (hzc : ¬ (zc = (0 : Int32)))) hZ (wd35 hw) (wd32 hw) (by decide) (by decide) hEL C339.1) (g := (mkF mi 75 #[.val (.int x0), .val (.int x1), .val (.int x2), .val (.ref x_247), .val (.ref x_254), .val (.ref x_261), .val (.ref x_334), .unset, .unset] [(.ref x_334), (.ref x_261), (.ref x_254), (.ref x_247), (.ref b337), (.ref b337)])) rfl (by rw [hml]; rfl) (Steps.refl _) (a := b337) (argsL := [(.ref x_247), (.ref x_254), (.ref x_261), (.ref x_334)]) (rest := [(.ref b337)]) (lenOf pd_12 rfl) rfl (by show 2 * 0 + _ ≤ _; exact Nat.le_of_eq rfl) (hb hby at_75) (fun _ _ => ⟨rfl, e337, (by decide : 9 + 16 ≤ _), (by decide : 24 + 292 ≤ _)⟩)
      dsimp only [Pt.U, Pt.locs, Pt.cells, Pt.slots] at X350 s350 gr350 l350 y350 z350 c350 st350 hQ350
      subst l350 y350 z350
      obtain ⟨X350, hS, hZ, hown⟩ := rebS hS (show _ ≤ T337.heap.size by rw [e337]; exact (Nat.le_trans hk (Nat.le_trans (Nat.le_trans (Nat.le_trans (Nat.le_trans Kq247.1 Kq254.1) Kq261.1) Kq334.1) E337.1))) X350 s350 gr350 hZ hown
      have hk : T350.heap.size ≤ T350.heap.size := Nat.le_refl _
      obtain ⟨rfl, Nq350, Kq350, r350_0, r350_1, r350_2, r350_3, r350_4⟩ := hQ350
      have N350 := Fr.app N334 Nq350
      have C352 := CHr.trans C339 c350
      have pre353 : ∀ tt, Steps pg.tables ev below (T350.setTop (mkF mi 83 #[.val (.int x0), .val (.int x1), .val (.int x2), .val (.ref x_247), .val (.ref x_254), .val (.ref x_261), .val (.ref x_334), .val (.ref b337), .unset] [(.int x0), (.ref b337)])) tt → Steps pg.tables ev below (s₁.setTop (entryFrame mi #[(.int x0), (.int x1), (.int x2)] maxLocals)) tt := fun tt kk => pre351 _ (by
        show Steps pg.tables ev below (T337.setTop (mkF mi 75 #[.val (.int x0), .val (.int x1), .val (.int x2), .val (.ref x_247), .val (.ref x_254), .val (.ref x_261), .val (.ref x_334), .unset, .unset] [(.ref x_334), (.ref x_261), (.ref x_254), (.ref x_247), (.ref b337), (.ref b337)])) _
        refine st350.trans ?_
        show Steps pg.tables ev below (T350.setTop (mkF mi 78 #[.val (.int x0), .val (.int x1), .val (.int x2), .val (.ref x_247), .val (.ref x_254), .val (.ref x_261), .val (.ref x_334), .unset, .unset] [(.ref b337)])) _
        refine XS.astore X350.here hx rfl (hb hby at_78) rfl rfl (l' := #[.val (.int x0), .val (.int x1), .val (.int x2), .val (.ref x_247), .val (.ref x_254), .val (.ref x_261), .val (.ref x_334), .val (.ref b337), .unset]) rfl ?_
        refine XS.aload X350.here hx rfl (hb hby at_80) rfl rfl ?_
        refine XS.iloadN X350.here hx rfl (hb hby at_82) rfl ?_
        exact kk)
      by_cases hc354 : x0 = (1 : Int32)
      · have O355 : Old Z n0 T350.heap := (O344.keep Kq350 (allS g_b337 all0))
        have f356 : LStr Z T350.heap x_247 t_247 ([ca] : List Int32) := (f345.keep Kq350 (ninS ne_x_247_b337 nin0) (ninS ne_t_247_b337 nin0))
        have f357 : LStr Z T350.heap x_254 t_254 ([cm] : List Int32) := (f346.keep Kq350 (ninS ne_x_254_b337 nin0) (ninS ne_t_254_b337 nin0))
        have f358 : LStr Z T350.heap x_261 t_261 ([cb] : List Int32) := (f347.keep Kq350 (ninS ne_x_261_b337 nin0) (ninS ne_t_261_b337 nin0))
        obtain ⟨cq359, kq359, q359a, q359b, q359c⟩ := isOf hZ rfl r350_0
        obtain ⟨v359, _, ⟨T359, L359, k359, n359⟩, -, X359, s359, gr359, ⟨Lc359, hQ359, l359, y359, z359, c359⟩, st359⟩ := X350.virtualBackS hx (y := mn35) (z := mn35) hown (mvT hZ (wd107 hw)) (mvT hZ (wd108 hw)) (notFace_of_selects (args := #[]) (mvT hZ (wd110 hw))) (mvT hZ (wd110 hw)) (mvT hZ (wd109 hw)) (by decide) (backOfSH (W := 0) (rm_fo11 la Z a0 hw [] b337 x0 x_247 t_247 ca x_254 t_254 cm x_261 t_261 cb zc em T350.heap n0 O355 r350_0 r350_1 r350_2 r350_3 f356 f357 f358 D0_ D1_ (s47_ca : ¬ ((ca.toInt8.toInt32) = (47 : Int32))) (s33_ca : ¬ ((ca.toInt8.toInt32) = (33 : Int32))) (s47_cm : ¬ ((cm.toInt8.toInt32) = (47 : Int32))) (s33_cm : ¬ ((cm.toInt8.toInt32) = (33 : Int32))) (s47_cb : ¬ ((cb.toInt8.toInt32) = (47 : Int32))) (s33_cb : ¬ ((cb.toInt8.toInt32) = (33 : Int32))) (hzc : ¬ (zc = (0 : Int32))) (hc354 : x0 = (1 : Int32))) hZ (wd111 hw) (wd32 hw) (by decide) (by decide) hEL C352.1) q359a q359c (g := (mkF mi 83 #[.val (.int x0), .val (.int x1), .val (.int x2), .val (.ref x_247), .val (.ref x_254), .val (.ref x_261), .val (.ref x_334), .val (.ref b337), .unset] [(.int x0), (.ref b337)])) rfl (by rw [hml]; rfl) (Steps.refl _) (argsL := [(.int x0)]) (rest := []) (lenOf pd_22 rfl) rfl (by show 2 * 0 + _ ≤ _; exact Nat.le_of_eq rfl) (hb hby at_83) (fun _ _ => ⟨rfl, rfl, (by decide : 25 + 18 ≤ _), (by decide : 316 + 298 ≤ _)⟩)
        dsimp only [Pt.U, Pt.locs, Pt.cells, Pt.slots] at X359 s359 gr359 l359 y359 z359 c359 st359 hQ359
        subst l359 y359 z359
        obtain ⟨X359, hS, hZ, hown⟩ := rebS hS (show _ ≤ T350.heap.size from hk) X359 s359 gr359 hZ hown
        have hk : T359.heap.size ≤ T359.heap.size := Nat.le_refl _
        obtain ⟨l__359, g2_359, rfl, Nq359, Kq359, fr_l__359, fr_g2_359, r359_0, r359_1, r359_2, r359_3, r359_4, r359_5, r359_6, r359_7⟩ := hQ359
        have N359 := Fr.app N350 Nq359
        have C360 := CHr.trans C352 c359
        have O361 : Old Z n0 T359.heap := (O355.keep Kq359 all0)
        have ne_em_g2_359 : em ≠ g2_359 := Nat.ne_of_lt (Nat.lt_of_lt_of_le D2_.lt (Nat.le_trans O355.2.1 fr_g2_359))
        obtain ⟨cq362, kq362, q362a, q362b, q362c⟩ := isOf hZ rfl r359_0
        obtain ⟨v362, _, ⟨T362, L362, k362, n362⟩, -, X362, ⟨Lc362, hQ362, l362, y362, z362⟩, st362⟩ := X359.interfaceBack hx (xi := mn36) (y := mn26) hown (mvT hZ (wd151 hw)) (mvT hZ (wd152 hw)) (mvT hZ (wd153 hw)) (mvT hZ (wd154 hw)) (mvT hZ (wd155 hw)) (mvT hZ (wd156 hw)) (mvT hZ (wd157 hw)) (mvT hZ (wd158 hw)) (by decide) (backOf (W := 0) (rm_sz2 la Z a0 hw [] l__359 g2_359 em T359.heap n0 O361 r359_2 D1_ (Ne.symm ne_em_g2_359)) hZ (wd159 hw) (wd118 hw) (by decide) (by decide)) q362a q362b q362c (g := (mkF mi 95 #[.val (.int x0), .val (.int x1), .val (.int x2), .val (.ref x_247), .val (.ref x_254), .val (.ref x_261), .val (.ref x_334), .val (.ref b337), .val (.ref l__359)] [(.ref l__359)])) rfl (by rw [hml]; rfl) (Steps.refl _) (argsL := []) (rest := []) (lenOf pd_23 rfl) rfl (by show 2 * 0 + _ ≤ _; exact Nat.le_of_eq rfl) (hb hby at_95) (fun _ _ => ⟨rfl, rfl, (by decide : 43 + 0 ≤ _), (by decide : 614 + 0 ≤ _)⟩)
        dsimp only [Pt.U, Pt.locs, Pt.cells, Pt.slots] at X362 l362 y362 z362 st362 hQ362
        subst l362 y362 z362
        obtain ⟨rfl, Nq362, ek362⟩ := hQ362
        have N362 := Fr.app N359 Nq362
        obtain ⟨cq363, kq363, q363a, q363b, q363c⟩ := isOf hZ ek362 r359_0
        obtain ⟨v363, _, ⟨T363, L363, k363, n363⟩, -, X363, ⟨Lc363, hQ363, l363, y363, z363⟩, st363⟩ := X362.interfaceBack hx (xi := mn37) (y := mn27) hown (mvT hZ (wd160 hw)) (mvT hZ (wd161 hw)) (mvT hZ (wd162 hw)) (mvT hZ (wd163 hw)) (mvT hZ (wd164 hw)) (mvT hZ (wd165 hw)) (mvT hZ (wd166 hw)) (mvT hZ (wd158 hw)) (by decide) (backOf (W := 0) (rm_get0 la Z a0 hw [] l__359 b337 T359.heap n0 O361 r359_1) hZ (wd167 hw) (wd118 hw) (by decide) (by decide)) q363a q363b q363c (g := (mkF mi 107 #[.val (.int x0), .val (.int x1), .val (.int x2), .val (.ref x_247), .val (.ref x_254), .val (.ref x_261), .val (.ref x_334), .val (.ref b337), .val (.ref l__359)] [(.int (0 : Int32)), (.ref l__359)])) rfl (by rw [hml]; rfl) (Steps.refl _) (argsL := [(.int (0 : Int32))]) (rest := []) (lenOf pd_24 rfl) rfl (by show 2 * 0 + _ ≤ _; exact Nat.le_of_eq rfl) (hb hby at_107) (fun _ _ => ⟨rfl, ek362, (by decide : 43 + 0 ≤ _), (by decide : 614 + 0 ≤ _)⟩)
        dsimp only [Pt.U, Pt.locs, Pt.cells, Pt.slots] at X363 l363 y363 z363 st363 hQ363
        subst l363 y363 z363
        obtain ⟨rfl, Nq363, ek363⟩ := hQ363
        have N363 := Fr.app N362 Nq363
        have f364 : Exa Z T359.heap b337 "com/example/beanloft/beanloft/naming/GlobalName" := (r350_0.keep Kq359)
        obtain ⟨T365, X365, e365, st365⟩ := castY X363 hx hZ hown (wd30 hw) ek363 (Ins.self f364) (g := (mkF mi 112 #[.val (.int x0), .val (.int x1), .val (.int x2), .val (.ref x_247), .val (.ref x_254), .val (.ref x_261), .val (.ref x_334), .val (.ref b337), .val (.ref l__359)] [(.ref b337)])) rfl rfl (hb hby at_112)
        have f366 : Fld Z T359.heap b337 "com/example/beanloft/beanloft/naming/GlobalName" "appName" "Ljava/lang/String;" (.ref x_247) := (r350_1.keep Kq359 nin0)
        have f367 : Fld Z T359.heap b337 "com/example/beanloft/beanloft/naming/GlobalName" "moduleName" "Ljava/lang/String;" (.ref x_254) := (r350_2.keep Kq359 nin0)
        have f368 : Fld Z T359.heap b337 "com/example/beanloft/beanloft/naming/GlobalName" "beanName" "Ljava/lang/String;" (.ref x_261) := (r350_3.keep Kq359 nin0)
        have f369 : Fld Z T359.heap b337 "com/example/beanloft/beanloft/naming/GlobalName" "viewName" "Ljava/lang/String;" (.ref x_334) := (r350_4.keep Kq359 nin0)
        have f370 : LStr Z T359.heap x_247 t_247 ([ca] : List Int32) := (f356.keep Kq359 nin0 nin0)
        have f371 : Exa Z T359.heap x_247 "java/lang/String" := (f370).1
        have f372 : LStr Z T359.heap x_254 t_254 ([cm] : List Int32) := (f357.keep Kq359 nin0 nin0)
        have f373 : Exa Z T359.heap x_254 "java/lang/String" := (f372).1
        have f374 : LStr Z T359.heap x_261 t_261 ([cb] : List Int32) := (f358.keep Kq359 nin0 nin0)
        have f375 : Exa Z T359.heap x_261 "java/lang/String" := (f374).1
        have f376 : LStr Z T359.heap x_334 t_334 ([cv] : List Int32) := ((f348.keep Kq350 (ninS ne_x_334_b337 nin0) (ninS ne_t_334_b337 nin0)).keep Kq359 nin0 nin0)
        have f377 : Exa Z T359.heap x_334 "java/lang/String" := (f376).1
        obtain ⟨v378, _, ⟨T378, L378, k378, n378⟩, -, X378, ⟨Lc378, hQ378, l378, y378, z378⟩, st378⟩ := Jvm.LawKit.callS X365 hx (y := mn34) hown (mvT hZ (wd169 hw)) (mvT hZ (wd170 hw)) (mvT hZ (wd2 hw)) (mvT hZ (wd171 hw)) (by decide) (backOf (W := 0) (rm_same11 la Z a0 hw [] b337 x_247 x_254 x_261 x_334 T359.heap n0 O361 f364 f366 f367 f368 f369 f371 f373 f375 f377) hZ (wd171 hw) (wd2 hw) (by decide) (by decide)) (g := (mkF mi 122 #[.val (.int x0), .val (.int x1), .val (.int x2), .val (.ref x_247), .val (.ref x_254), .val (.ref x_261), .val (.ref x_334), .val (.ref b337), .val (.ref l__359)] [(.ref x_334), (.ref x_261), (.ref x_254), (.ref x_247), (.ref b337)])) rfl (by rw [hml]; rfl) (argsL := [(.ref b337), (.ref x_247), (.ref x_254), (.ref x_261), (.ref x_334)]) (rest := []) (lenOf pd_25 rfl) rfl (by show 2 * 0 + _ ≤ _; exact Nat.le_of_eq rfl) (hb hby at_122) (fun _ _ => ⟨rfl, e365, (by decide : 43 + 0 ≤ _), (by decide : 614 + 0 ≤ _)⟩)
        dsimp only [Pt.U, Pt.locs, Pt.cells, Pt.slots] at X378 l378 y378 z378 st378 hQ378
        subst l378 y378 z378
        obtain ⟨rfl, Nq378, ek378⟩ := hQ378
        have N378 := Fr.app N363 Nq378
        obtain ⟨cq379, kq379, q379a, q379b, q379c⟩ := isOf hZ ek378 r359_0
        obtain ⟨v379, _, ⟨T379, L379, k379, n379⟩, -, X379, ⟨Lc379, hQ379, l379, y379, z379⟩, st379⟩ := X378.interfaceBack hx (xi := mn37) (y := mn27) hown (mvT hZ (wd160 hw)) (mvT hZ (wd161 hw)) (mvT hZ (wd162 hw)) (mvT hZ (wd163 hw)) (mvT hZ (wd164 hw)) (mvT hZ (wd165 hw)) (mvT hZ (wd166 hw)) (mvT hZ (wd158 hw)) (by decide) (backOf (W := 0) (rm_get1 la Z a0 hw [] l__359 g2_359 em T359.heap n0 O361 r359_2 D1_ (Ne.symm ne_em_g2_359)) hZ (wd167 hw) (wd118 hw) (by decide) (by decide)) q379a q379b q379c (g := (mkF mi 131 #[.val (.int x0), .val (.int x1), .val (.int x2), .val (.ref x_247), .val (.ref x_254), .val (.ref x_261), .val (.ref x_334), .val (.ref b337), .val (.ref l__359)] [(.int (1 : Int32)), (.ref l__359)])) rfl (by rw [hml]; rfl) (Steps.refl _) (argsL := [(.int (1 : Int32))]) (rest := []) (lenOf pd_24 rfl) rfl (by show 2 * 0 + _ ≤ _; exact Nat.le_of_eq rfl) (hb hby at_131) (fun _ _ => ⟨rfl, ek378, (by decide : 43 + 0 ≤ _), (by decide : 614 + 0 ≤ _)⟩)
        dsimp only [Pt.U, Pt.locs, Pt.cells, Pt.slots] at X379 l379 y379 z379 st379 hQ379
        subst l379 y379 z379
        obtain ⟨rfl, Nq379, ek379⟩ := hQ379
        have N379 := Fr.app N378 Nq379
        obtain ⟨T380, X380, e380, st380⟩ := castY X379 hx hZ hown (wd30 hw) ek379 (Ins.self r359_3) (g := (mkF mi 136 #[.val (.int x0), .val (.int x1), .val (.int x2), .val (.ref x_247), .val (.ref x_254), .val (.ref x_261), .val (.ref x_334), .val (.ref b337), .val (.ref l__359)] [(.ref g2_359)])) rfl rfl (hb hby at_136)
        obtain ⟨v381, _, ⟨T381, L381, k381, n381⟩, -, X381, ⟨Lc381, hQ381, l381, y381, z381⟩, st381⟩ := Jvm.LawKit.callS X380 hx (y := mn34) hown (mvT hZ (wd169 hw)) (mvT hZ (wd170 hw)) (mvT hZ (wd2 hw)) (mvT hZ (wd171 hw)) (by decide) (backOf (W := 0) (rm_same10 la Z a0 hw [] g2_359 x_247 x_254 x_261 T359.heap n0 O361 r359_3 r359_4 r359_5 r359_6 r359_7 f371 f373 f375) hZ (wd171 hw) (wd2 hw) (by decide) (by decide)) (g := (mkF mi 145 #[.val (.int x0), .val (.int x1), .val (.int x2), .val (.ref x_247), .val (.ref x_254), .val (.ref x_261), .val (.ref x_334), .val (.ref b337), .val (.ref l__359)] [.null, (.ref x_261), (.ref x_254), (.ref x_247), (.ref g2_359)])) rfl (by rw [hml]; rfl) (argsL := [(.ref g2_359), (.ref x_247), (.ref x_254), (.ref x_261), .null]) (rest := []) (lenOf pd_25 rfl) rfl (by show 2 * 0 + _ ≤ _; exact Nat.le_of_eq rfl) (hb hby at_145) (fun _ _ => ⟨rfl, e380, (by decide : 43 + 0 ≤ _), (by decide : 614 + 0 ≤ _)⟩)
        dsimp only [Pt.U, Pt.locs, Pt.cells, Pt.slots] at X381 l381 y381 z381 st381 hQ381
        subst l381 y381 z381
        obtain ⟨rfl, Nq381, ek381⟩ := hQ381
        have N381 := Fr.app N379 Nq381
        obtain ⟨fs, hr, hrun, hended, hWe⟩ := X381.leaveW hS (show _ ≤ T381.heap.size by rw [ek381]; exact hk) (v := some (.int (1 : Int32))) (fun hq => by rw [Bd.returns] at hq; cases hq)
        refine ⟨_, _, pre353 _ ?_, hrun, hended, _, _, rfl, ?_, ?_, hWe.1, hWe.2.1, hWe.2.2.1, hWe.2.2.2.mono (by decide) (by decide)⟩
        · show Steps pg.tables ev below (T350.setTop (mkF mi 83 #[.val (.int x0), .val (.int x1), .val (.int x2), .val (.ref x_247), .val (.ref x_254), .val (.ref x_261), .val (.ref x_334), .val (.ref b337), .unset] [(.int x0), (.ref b337)])) _
          refine st359.trans ?_
          show Steps pg.tables ev below (T359.setTop (mkF mi 86 #[.val (.int x0), .val (.int x1), .val (.int x2), .val (.ref x_247), .val (.ref x_254), .val (.ref x_261), .val (.ref x_334), .val (.ref b337), .unset] [(.ref l__359)])) _
          refine XS.astore X359.here hx rfl (hb hby at_86) rfl rfl (l' := #[.val (.int x0), .val (.int x1), .val (.int x2), .val (.ref x_247), .val (.ref x_254), .val (.ref x_261), .val (.ref x_334), .val (.ref b337), .val (.ref l__359)]) rfl ?_
          refine XS.iloadN X359.here hx rfl (hb hby at_88) rfl ?_
          refine XS.iconst X359.here hx rfl (hb hby at_89) ?_
          refine XS.icmpNo X359.here hx rfl (hb hby at_90) rfl (teq hc354).2 ?_
          refine XS.aload X359.here hx rfl (hb hby at_93) rfl rfl ?_
          show Steps pg.tables ev below (T359.setTop (mkF mi 95 #[.val (.int x0), .val (.int x1), .val (.int x2), .val (.ref x_247), .val (.ref x_254), .val (.ref x_261), .val (.ref x_334), .val (.ref b337), .val (.ref l__359)] [(.ref l__359)])) _
          refine st362.trans ?_
          show Steps pg.tables ev below (T362.setTop (mkF mi 100 #[.val (.int x0), .val (.int x1), .val (.int x2), .val (.ref x_247), .val (.ref x_254), .val (.ref x_261), .val (.ref x_334), .val (.ref b337), .val (.ref l__359)] [(.int (2 : Int32))])) _
          refine XS.iconst X362.here hx rfl (hb hby at_100) ?_
          refine XS.icmpNo X362.here hx rfl (hb hby at_101) rfl (teq (rfl : (2 : Int32) = (2 : Int32))).2 ?_
          refine XS.aload X362.here hx rfl (hb hby at_104) rfl rfl ?_
          refine XS.iconst X362.here hx rfl (hb hby at_106) ?_
          show Steps pg.tables ev below (T362.setTop (mkF mi 107 #[.val (.int x0), .val (.int x1), .val (.int x2), .val (.ref x_247), .val (.ref x_254), .val (.ref x_261), .val (.ref x_334), .val (.ref b337), .val (.ref l__359)] [(.int (0 : Int32)), (.ref l__359)])) _
          refine st363.trans ?_
          show Steps pg.tables ev below (T363.setTop (mkF mi 112 #[.val (.int x0), .val (.int x1), .val (.int x2), .val (.ref x_247), .val (.ref x_254), .val (.ref x_261), .val (.ref x_334), .val (.ref b337), .val (.ref l__359)] [(.ref b337)])) _
          refine st365 _ ?_
          show Steps pg.tables ev below (T365.setTop (mkF mi 115 #[.val (.int x0), .val (.int x1), .val (.int x2), .val (.ref x_247), .val (.ref x_254), .val (.ref x_261), .val (.ref x_334), .val (.ref b337), .val (.ref l__359)] [(.ref b337)])) _
          refine XS.aloadN X365.here hx rfl (hb hby at_115) rfl rfl ?_
          refine XS.aload X365.here hx rfl (hb hby at_116) rfl rfl ?_
          refine XS.aload X365.here hx rfl (hb hby at_118) rfl rfl ?_
          refine XS.aload X365.here hx rfl (hb hby at_120) rfl rfl ?_
          show Steps pg.tables ev below (T365.setTop (mkF mi 122 #[.val (.int x0), .val (.int x1), .val (.int x2), .val (.ref x_247), .val (.ref x_254), .val (.ref x_261), .val (.ref x_334), .val (.ref b337), .val (.ref l__359)] [(.ref x_334), (.ref x_261), (.ref x_254), (.ref x_247), (.ref b337)])) _
          refine st378 _ ?_
          show Steps pg.tables ev below (T378.setTop (mkF mi 125 #[.val (.int x0), .val (.int x1), .val (.int x2), .val (.ref x_247), .val (.ref x_254), .val (.ref x_261), .val (.ref x_334), .val (.ref b337), .val (.ref l__359)] [(.int (1 : Int32))])) _
          refine XS.ifNo X378.here hx rfl (hb hby at_125) rfl ((if0 _ _).trans (feq (by decide : ¬ ((1 : Int32) = (0 : Int32)))).1) ?_
          refine XS.aload X378.here hx rfl (hb hby at_128) rfl rfl ?_
          refine XS.iconst X378.here hx rfl (hb hby at_130) ?_
          show Steps pg.tables ev below (T378.setTop (mkF mi 131 #[.val (.int x0), .val (.int x1), .val (.int x2), .val (.ref x_247), .val (.ref x_254), .val (.ref x_261), .val (.ref x_334), .val (.ref b337), .val (.ref l__359)] [(.int (1 : Int32)), (.ref l__359)])) _
          refine st379.trans ?_
          show Steps pg.tables ev below (T379.setTop (mkF mi 136 #[.val (.int x0), .val (.int x1), .val (.int x2), .val (.ref x_247), .val (.ref x_254), .val (.ref x_261), .val (.ref x_334), .val (.ref b337), .val (.ref l__359)] [(.ref g2_359)])) _
          refine st380 _ ?_
          show Steps pg.tables ev below (T380.setTop (mkF mi 139 #[.val (.int x0), .val (.int x1), .val (.int x2), .val (.ref x_247), .val (.ref x_254), .val (.ref x_261), .val (.ref x_334), .val (.ref b337), .val (.ref l__359)] [(.ref g2_359)])) _
          refine XS.aloadN X380.here hx rfl (hb hby at_139) rfl rfl ?_
          refine XS.aload X380.here hx rfl (hb hby at_140) rfl rfl ?_
          refine XS.aload X380.here hx rfl (hb hby at_142) rfl rfl ?_
          refine XS.aconstNull X380.here hx rfl (hb hby at_144) ?_
          show Steps pg.tables ev below (T380.setTop (mkF mi 145 #[.val (.int x0), .val (.int x1), .val (.int x2), .val (.ref x_247), .val (.ref x_254), .val (.ref x_261), .val (.ref x_334), .val (.ref b337), .val (.ref l__359)] [.null, (.ref x_261), (.ref x_254), (.ref x_247), (.ref g2_359)])) _
          refine st381 _ ?_
          show Steps pg.tables ev below (T381.setTop (mkF mi 148 #[.val (.int x0), .val (.int x1), .val (.int x2), .val (.ref x_247), .val (.ref x_254), .val (.ref x_261), .val (.ref x_334), .val (.ref b337), .val (.ref l__359)] [(.int (1 : Int32))])) _
          refine XS.ifNo X381.here hx rfl (hb hby at_148) rfl ((if0 _ _).trans (feq (by decide : ¬ ((1 : Int32) = (0 : Int32)))).1) ?_
          refine XS.iconst X381.here hx rfl (hb hby at_151) ?_
          refine XS.goto X381.here hx rfl (pc0 := 152) (pc' := 156) rfl (hb hby at_152) (by decide) (by decide) ?_
          show Steps pg.tables ev below (T381.setTop (mkF mi 156 #[.val (.int x0), .val (.int x1), .val (.int x2), .val (.ref x_247), .val (.ref x_254), .val (.ref x_261), .val (.ref x_334), .val (.ref b337), .val (.ref l__359)] [(.int (1 : Int32))])) _
          exact retN X381 hx (t := .boolean) Bd.returns (by simp) (hb hby at_156) hr
        · show Q_law Z x0 x1 x2 zc em hE n0 _ T381.heap _
          rw [ek381]
          exact ⟨rfl, N381⟩
        · show CHr Z ELs sb.vm sb.heap T381.vm T381.heap
          rw [hh, ek381]
          exact CHr.trans C360 (CHv.at X381 hZ hEL C360.1)
      · have O382 : Old Z n0 T350.heap := (O344.keep Kq350 (allS g_b337 all0))
        have f383 : LStr Z T350.heap x_247 t_247 ([ca] : List Int32) := (f345.keep Kq350 (ninS ne_x_247_b337 nin0) (ninS ne_t_247_b337 nin0))
        have f384 : LStr Z T350.heap x_254 t_254 ([cm] : List Int32) := (f346.keep Kq350 (ninS ne_x_254_b337 nin0) (ninS ne_t_254_b337 nin0))
        have f385 : LStr Z T350.heap x_261 t_261 ([cb] : List Int32) := (f347.keep Kq350 (ninS ne_x_261_b337 nin0) (ninS ne_t_261_b337 nin0))
        obtain ⟨cq386, kq386, q386a, q386b, q386c⟩ := isOf hZ rfl r350_0
        obtain ⟨v386, _, ⟨T386, L386, k386, n386⟩, -, X386, s386, gr386, ⟨Lc386, hQ386, l386, y386, z386, c386⟩, st386⟩ := X350.virtualBackS hx (y := mn35) (z := mn35) hown (mvT hZ (wd107 hw)) (mvT hZ (wd108 hw)) (notFace_of_selects (args := #[]) (mvT hZ (wd110 hw))) (mvT hZ (wd110 hw)) (mvT hZ (wd109 hw)) (by decide) (backOfSH (W := 0) (rm_fo10 la Z a0 hw [] b337 x0 x_247 t_247 ca x_254 t_254 cm x_261 t_261 cb zc em T350.heap n0 O382 r350_0 r350_1 r350_2 r350_3 f383 f384 f385 D0_ D1_ (hzc : ¬ (zc = (0 : Int32))) (hc354 : ¬ (x0 = (1 : Int32)))) hZ (wd111 hw) (wd32 hw) (by decide) (by decide) hEL C352.1) q386a q386c (g := (mkF mi 83 #[.val (.int x0), .val (.int x1), .val (.int x2), .val (.ref x_247), .val (.ref x_254), .val (.ref x_261), .val (.ref x_334), .val (.ref b337), .unset] [(.int x0), (.ref b337)])) rfl (by rw [hml]; rfl) (Steps.refl _) (argsL := [(.int x0)]) (rest := []) (lenOf pd_22 rfl) rfl (by show 2 * 0 + _ ≤ _; exact Nat.le_of_eq rfl) (hb hby at_83) (fun _ _ => ⟨rfl, rfl, (by decide : 25 + 1 ≤ _), (by decide : 316 + 2 ≤ _)⟩)
        dsimp only [Pt.U, Pt.locs, Pt.cells, Pt.slots] at X386 s386 gr386 l386 y386 z386 c386 st386 hQ386
        subst l386 y386 z386
        obtain ⟨X386, hS, hZ, hown⟩ := rebS hS (show _ ≤ T350.heap.size from hk) X386 s386 gr386 hZ hown
        have hk : T386.heap.size ≤ T386.heap.size := Nat.le_refl _
        obtain ⟨l__386, rfl, Nq386, Kq386, fr_l__386, r386_0, r386_1, r386_2⟩ := hQ386
        have N386 := Fr.app N350 Nq386
        have C387 := CHr.trans C352 c386
        have O388 : Old Z n0 T386.heap := (O382.keep Kq386 all0)
        obtain ⟨cq389, kq389, q389a, q389b, q389c⟩ := isOf hZ rfl r386_0
        obtain ⟨v389, _, ⟨T389, L389, k389, n389⟩, -, X389, ⟨Lc389, hQ389, l389, y389, z389⟩, st389⟩ := X386.interfaceBack hx (xi := mn36) (y := mn26) hown (mvT hZ (wd151 hw)) (mvT hZ (wd152 hw)) (mvT hZ (wd153 hw)) (mvT hZ (wd154 hw)) (mvT hZ (wd155 hw)) (mvT hZ (wd156 hw)) (mvT hZ (wd157 hw)) (mvT hZ (wd158 hw)) (by decide) (backOf (W := 0) (rm_sz1 la Z a0 hw [] l__386 em T386.heap n0 O388 r386_2 D1_) hZ (wd159 hw) (wd118 hw) (by decide) (by decide)) q389a q389b q389c (g := (mkF mi 159 #[.val (.int x0), .val (.int x1), .val (.int x2), .val (.ref x_247), .val (.ref x_254), .val (.ref x_261), .val (.ref x_334), .val (.ref b337), .val (.ref l__386)] [(.ref l__386)])) rfl (by rw [hml]; rfl) (Steps.refl _) (argsL := []) (rest := []) (lenOf pd_23 rfl) rfl (by show 2 * 0 + _ ≤ _; exact Nat.le_of_eq rfl) (hb hby at_159) (fun _ _ => ⟨rfl, rfl, (by decide : 26 + 0 ≤ _), (by decide : 318 + 0 ≤ _)⟩)
        dsimp only [Pt.U, Pt.locs, Pt.cells, Pt.slots] at X389 l389 y389 z389 st389 hQ389
        subst l389 y389 z389
        obtain ⟨rfl, Nq389, ek389⟩ := hQ389
        have N389 := Fr.app N386 Nq389
        obtain ⟨cq390, kq390, q390a, q390b, q390c⟩ := isOf hZ ek389 r386_0
        obtain ⟨v390, _, ⟨T390, L390, k390, n390⟩, -, X390, ⟨Lc390, hQ390, l390, y390, z390⟩, st390⟩ := X389.interfaceBack hx (xi := mn37) (y := mn27) hown (mvT hZ (wd160 hw)) (mvT hZ (wd161 hw)) (mvT hZ (wd162 hw)) (mvT hZ (wd163 hw)) (mvT hZ (wd164 hw)) (mvT hZ (wd165 hw)) (mvT hZ (wd166 hw)) (mvT hZ (wd158 hw)) (by decide) (backOf (W := 0) (rm_get0 la Z a0 hw [] l__386 b337 T386.heap n0 O388 r386_1) hZ (wd167 hw) (wd118 hw) (by decide) (by decide)) q390a q390b q390c (g := (mkF mi 171 #[.val (.int x0), .val (.int x1), .val (.int x2), .val (.ref x_247), .val (.ref x_254), .val (.ref x_261), .val (.ref x_334), .val (.ref b337), .val (.ref l__386)] [(.int (0 : Int32)), (.ref l__386)])) rfl (by rw [hml]; rfl) (Steps.refl _) (argsL := [(.int (0 : Int32))]) (rest := []) (lenOf pd_24 rfl) rfl (by show 2 * 0 + _ ≤ _; exact Nat.le_of_eq rfl) (hb hby at_171) (fun _ _ => ⟨rfl, ek389, (by decide : 26 + 0 ≤ _), (by decide : 318 + 0 ≤ _)⟩)
        dsimp only [Pt.U, Pt.locs, Pt.cells, Pt.slots] at X390 l390 y390 z390 st390 hQ390
        subst l390 y390 z390
        obtain ⟨rfl, Nq390, ek390⟩ := hQ390
        have N390 := Fr.app N389 Nq390
        have f391 : Exa Z T386.heap b337 "com/example/beanloft/beanloft/naming/GlobalName" := (r350_0.keep Kq386)
        obtain ⟨T392, X392, e392, st392⟩ := castY X390 hx hZ hown (wd30 hw) ek390 (Ins.self f391) (g := (mkF mi 176 #[.val (.int x0), .val (.int x1), .val (.int x2), .val (.ref x_247), .val (.ref x_254), .val (.ref x_261), .val (.ref x_334), .val (.ref b337), .val (.ref l__386)] [(.ref b337)])) rfl rfl (hb hby at_176)
        have f393 : Fld Z T386.heap b337 "com/example/beanloft/beanloft/naming/GlobalName" "appName" "Ljava/lang/String;" (.ref x_247) := (r350_1.keep Kq386 nin0)
        have f394 : Fld Z T386.heap b337 "com/example/beanloft/beanloft/naming/GlobalName" "moduleName" "Ljava/lang/String;" (.ref x_254) := (r350_2.keep Kq386 nin0)
        have f395 : Fld Z T386.heap b337 "com/example/beanloft/beanloft/naming/GlobalName" "beanName" "Ljava/lang/String;" (.ref x_261) := (r350_3.keep Kq386 nin0)
        have f396 : Fld Z T386.heap b337 "com/example/beanloft/beanloft/naming/GlobalName" "viewName" "Ljava/lang/String;" (.ref x_334) := (r350_4.keep Kq386 nin0)
        have f397 : LStr Z T386.heap x_247 t_247 ([ca] : List Int32) := (f383.keep Kq386 nin0 nin0)
        have f398 : Exa Z T386.heap x_247 "java/lang/String" := (f397).1
        have f399 : LStr Z T386.heap x_254 t_254 ([cm] : List Int32) := (f384.keep Kq386 nin0 nin0)
        have f400 : Exa Z T386.heap x_254 "java/lang/String" := (f399).1
        have f401 : LStr Z T386.heap x_261 t_261 ([cb] : List Int32) := (f385.keep Kq386 nin0 nin0)
        have f402 : Exa Z T386.heap x_261 "java/lang/String" := (f401).1
        have f403 : LStr Z T386.heap x_334 t_334 ([cv] : List Int32) := ((f348.keep Kq350 (ninS ne_x_334_b337 nin0) (ninS ne_t_334_b337 nin0)).keep Kq386 nin0 nin0)
        have f404 : Exa Z T386.heap x_334 "java/lang/String" := (f403).1
        obtain ⟨v405, _, ⟨T405, L405, k405, n405⟩, -, X405, ⟨Lc405, hQ405, l405, y405, z405⟩, st405⟩ := Jvm.LawKit.callS X392 hx (y := mn34) hown (mvT hZ (wd169 hw)) (mvT hZ (wd170 hw)) (mvT hZ (wd2 hw)) (mvT hZ (wd171 hw)) (by decide) (backOf (W := 0) (rm_same11 la Z a0 hw [] b337 x_247 x_254 x_261 x_334 T386.heap n0 O388 f391 f393 f394 f395 f396 f398 f400 f402 f404) hZ (wd171 hw) (wd2 hw) (by decide) (by decide)) (g := (mkF mi 186 #[.val (.int x0), .val (.int x1), .val (.int x2), .val (.ref x_247), .val (.ref x_254), .val (.ref x_261), .val (.ref x_334), .val (.ref b337), .val (.ref l__386)] [(.ref x_334), (.ref x_261), (.ref x_254), (.ref x_247), (.ref b337)])) rfl (by rw [hml]; rfl) (argsL := [(.ref b337), (.ref x_247), (.ref x_254), (.ref x_261), (.ref x_334)]) (rest := []) (lenOf pd_25 rfl) rfl (by show 2 * 0 + _ ≤ _; exact Nat.le_of_eq rfl) (hb hby at_186) (fun _ _ => ⟨rfl, e392, (by decide : 26 + 0 ≤ _), (by decide : 318 + 0 ≤ _)⟩)
        dsimp only [Pt.U, Pt.locs, Pt.cells, Pt.slots] at X405 l405 y405 z405 st405 hQ405
        subst l405 y405 z405
        obtain ⟨rfl, Nq405, ek405⟩ := hQ405
        have N405 := Fr.app N390 Nq405
        obtain ⟨fs, hr, hrun, hended, hWe⟩ := X405.leaveW hS (show _ ≤ T405.heap.size by rw [ek405]; exact hk) (v := some (.int (1 : Int32))) (fun hq => by rw [Bd.returns] at hq; cases hq)
        refine ⟨_, _, pre353 _ ?_, hrun, hended, _, _, rfl, ?_, ?_, hWe.1, hWe.2.1, hWe.2.2.1, hWe.2.2.2.mono (by decide) (by decide)⟩
        · show Steps pg.tables ev below (T350.setTop (mkF mi 83 #[.val (.int x0), .val (.int x1), .val (.int x2), .val (.ref x_247), .val (.ref x_254), .val (.ref x_261), .val (.ref x_334), .val (.ref b337), .unset] [(.int x0), (.ref b337)])) _
          refine st386.trans ?_
          show Steps pg.tables ev below (T386.setTop (mkF mi 86 #[.val (.int x0), .val (.int x1), .val (.int x2), .val (.ref x_247), .val (.ref x_254), .val (.ref x_261), .val (.ref x_334), .val (.ref b337), .unset] [(.ref l__386)])) _
          refine XS.astore X386.here hx rfl (hb hby at_86) rfl rfl (l' := #[.val (.int x0), .val (.int x1), .val (.int x2), .val (.ref x_247), .val (.ref x_254), .val (.ref x_261), .val (.ref x_334), .val (.ref b337), .val (.ref l__386)]) rfl ?_
          refine XS.iloadN X386.here hx rfl (hb hby at_88) rfl ?_
          refine XS.iconst X386.here hx rfl (hb hby at_89) ?_
          refine XS.icmpYes X386.here hx rfl (pc0 := 90) (pc' := 157) rfl (hb hby at_90) rfl (feq hc354).2 (by decide) (by decide) ?_
          refine XS.aload X386.here hx rfl (hb hby at_157) rfl rfl ?_
          show Steps pg.tables ev below (T386.setTop (mkF mi 159 #[.val (.int x0), .val (.int x1), .val (.int x2), .val (.ref x_247), .val (.ref x_254), .val (.ref x_261), .val (.ref x_334), .val (.ref b337), .val (.ref l__386)] [(.ref l__386)])) _
          refine st389.trans ?_
          show Steps pg.tables ev below (T389.setTop (mkF mi 164 #[.val (.int x0), .val (.int x1), .val (.int x2), .val (.ref x_247), .val (.ref x_254), .val (.ref x_261), .val (.ref x_334), .val (.ref b337), .val (.ref l__386)] [(.int (1 : Int32))])) _
          refine XS.iconst X389.here hx rfl (hb hby at_164) ?_
          refine XS.icmpNo X389.here hx rfl (hb hby at_165) rfl (teq (rfl : (1 : Int32) = (1 : Int32))).2 ?_
          refine XS.aload X389.here hx rfl (hb hby at_168) rfl rfl ?_
          refine XS.iconst X389.here hx rfl (hb hby at_170) ?_
          show Steps pg.tables ev below (T389.setTop (mkF mi 171 #[.val (.int x0), .val (.int x1), .val (.int x2), .val (.ref x_247), .val (.ref x_254), .val (.ref x_261), .val (.ref x_334), .val (.ref b337), .val (.ref l__386)] [(.int (0 : Int32)), (.ref l__386)])) _
          refine st390.trans ?_
          show Steps pg.tables ev below (T390.setTop (mkF mi 176 #[.val (.int x0), .val (.int x1), .val (.int x2), .val (.ref x_247), .val (.ref x_254), .val (.ref x_261), .val (.ref x_334), .val (.ref b337), .val (.ref l__386)] [(.ref b337)])) _
          refine st392 _ ?_
          show Steps pg.tables ev below (T392.setTop (mkF mi 179 #[.val (.int x0), .val (.int x1), .val (.int x2), .val (.ref x_247), .val (.ref x_254), .val (.ref x_261), .val (.ref x_334), .val (.ref b337), .val (.ref l__386)] [(.ref b337)])) _
          refine XS.aloadN X392.here hx rfl (hb hby at_179) rfl rfl ?_
          refine XS.aload X392.here hx rfl (hb hby at_180) rfl rfl ?_
          refine XS.aload X392.here hx rfl (hb hby at_182) rfl rfl ?_
          refine XS.aload X392.here hx rfl (hb hby at_184) rfl rfl ?_
          show Steps pg.tables ev below (T392.setTop (mkF mi 186 #[.val (.int x0), .val (.int x1), .val (.int x2), .val (.ref x_247), .val (.ref x_254), .val (.ref x_261), .val (.ref x_334), .val (.ref b337), .val (.ref l__386)] [(.ref x_334), (.ref x_261), (.ref x_254), (.ref x_247), (.ref b337)])) _
          refine st405 _ ?_
          show Steps pg.tables ev below (T405.setTop (mkF mi 189 #[.val (.int x0), .val (.int x1), .val (.int x2), .val (.ref x_247), .val (.ref x_254), .val (.ref x_261), .val (.ref x_334), .val (.ref b337), .val (.ref l__386)] [(.int (1 : Int32))])) _
          refine XS.ifNo X405.here hx rfl (hb hby at_189) rfl ((if0 _ _).trans (feq (by decide : ¬ ((1 : Int32) = (0 : Int32)))).1) ?_
          refine XS.iconst X405.here hx rfl (hb hby at_192) ?_
          refine XS.goto X405.here hx rfl (pc0 := 193) (pc' := 197) rfl (hb hby at_193) (by decide) (by decide) ?_
          show Steps pg.tables ev below (T405.setTop (mkF mi 197 #[.val (.int x0), .val (.int x1), .val (.int x2), .val (.ref x_247), .val (.ref x_254), .val (.ref x_261), .val (.ref x_334), .val (.ref b337), .val (.ref l__386)] [(.int (1 : Int32))])) _
          exact retN X405 hx (t := .boolean) Bd.returns (by simp) (hb hby at_197) hr
        · show Q_law Z x0 x1 x2 zc em hE n0 _ T405.heap _
          rw [ek405]
          exact ⟨rfl, N405⟩
        · show CHr Z ELs sb.vm sb.heap T405.vm T405.heap
          rw [hh, ek405]
          exact CHr.trans C387 (CHv.at X405 hZ hEL C387.1)
theorem own_cz {args : Array Value} {s : State} {iz : Int32} (ez : (Term.static "java/lang/String" "COMPACT_STRINGS" "Z").eval args s none [] s = some (.int iz)) (h : (Jvm.Cond.not (.eq (.static "java/lang/String" "COMPACT_STRINGS" "Z") (.int (0 : Int32)))).before args s = true) : ¬ (iz = (0 : Int32)) := fun q => by
  have h9 := not_v (Cond.before_iff.mp h)
  rw [eq_i ez (Term.int_eval (0 : Int32)) (by rw [q])] at h9
  exact absurd h9 (by simp)
set_option maxRecDepth 65536 in
set_option maxHeartbeats 40000000 in
theorem comes_1 {Post : Tables → Env → Array Value → State → Outcome → State → Prop} (hpost : ∀ tb e args s v u, (limb_1_1.after args s (.returned v) u = true ∧ limb_1_2.after args s (.returned v) u = true ∧ True) → ReturnedEndW s (.returned v) u (Jvm.fieldLocs frame_1_writes args s ++ Jvm.arrayLocs frame_1_arrays args s ++ Jvm.staticLocs frame_1_statics s) 48 8384 → Post tb e args s (.returned v) u) :
    ArmFor flags0 classFile x code maxLocals ret World_1 tables_1 room_1 Calls_1 rest_1 Pre_1 Post := by
  intro l hfl _ _ p e ha hcf hk s m args below hf hA hF happ hP
  obtain ⟨hcalls, hrest, hpre⟩ := hP
  obtain ⟨-, -, -, hnamed, -, -, -, hat⟩ := (Spec.applies_iff hf).mp happ
  obtain ⟨hg, hn⟩ := and_e (Cond.before_iff.mp (show (Jvm.Cond.and given_1 narrow_1).before args s = true from hpre))
  obtain ⟨hcnt, hg⟩ := and_e hg
  obtain ⟨ha0, hg⟩ := and_e hg
  obtain ⟨ha1, hg⟩ := and_e hg
  have ha2 := hg
  obtain ⟨w0, w1, w2, rfl⟩ : ∃ w0 w1 w2 : Value, args = #[w0, w1, w2] := by
    have hs : args.size = 3 := by simpa [Cond.value, given_1] using hcnt
    obtain ⟨L⟩ := args
    match L, hs with
    | [w0, w1, w2], _ => exact ⟨w0, w1, w2, rfl⟩
  have hw := fun d (hd : d ∈ tables_1) => atoms_spec (ws := Jvm.Cond.code x code maxLocals ret :: tables_1) hat d (List.mem_cons_of_mem _ hd)
  have hfit : Fit s := fun {y c} hc i hi => by
    obtain ⟨ha, rfl⟩ := Array.getElem?_eq_some_iff.mp hc
    have q := List.all_eq_true.mp ((Array.all_eq_true_iff_forall_mem.mp hF) _ (Array.getElem_mem ha)) i (List.mem_range.mpr hi)
    simpa [Array.getElem?_eq_getElem hi] using q
  obtain ⟨hsets, hown0⟩ := atoms_of _ (rest_1_c_eq ▸ (show rest_1_c.before _ s = true from hrest))
  obtain ⟨i0, ei0⟩ := is_v ha0
  obtain rfl : w0 = (.int i0) := Option.some.inj ei0
  obtain ⟨i1, ei1⟩ := is_v ha1
  obtain rfl : w1 = (.int i1) := Option.some.inj ei1
  obtain ⟨i2, ei2⟩ := is_v ha2
  obtain rfl : w2 = (.int i2) := Option.some.inj ei2
  have hset := fun i (c : Jvm.Cond) (h : jdkStatics_1[i]? = some c) => hsets c (List.mem_of_getElem? h)
  obtain ⟨iz, ez⟩ := is_v (Cond.before_iff.mp (hset 1 _ rfl))
  have sz := Sta.start ez (Or.inl (hset 0 _ rfl))
  have hz : ¬ (iz = (0 : Int32)) := own_cz ez (hset 2 _ rfl)
  obtain ⟨ae, ee⟩ := exa_v (Cond.before_iff.mp (hset 11 _ rfl))
  have se := Sta.start ee (Or.inl (hset 10 _ rfl))
  have xe := Exa.start ee (Cond.before_iff.mp (hset 11 _ rfl))
  have hCH : CHv s ELs s.vm s.heap := CHv.start (own_EW hw) (fun p hp => hcalls.1 p ((by decide : ∀ p ∈ ELs, p ∈ consts_1) p hp)) (hset 2 _ rfl) (wd18 hw) (wd14 hw)
  obtain ⟨n, o, h1, h2, h3, _, L, rfl, ⟨rfl, N⟩, -, hq⟩ := rm_law l s _ hw tables_1 i0 i1 i2 iz ae s.heap s.heap.size (Old.start s) sz se xe hz p e ha hcf hk s m _ below hf ((Spec.applies_iff_loose hf).mp happ).1 ⟨rfl, State.Warmed39.refl s, rfl, hCH⟩ trivial
  refine ⟨n, _, h1, h2, h3, hpost _ _ _ _ _ _ ⟨Cond.after_iff.mpr rfl, Cond.after_iff.mpr (eq_i res_at (Term.int_eval (1)) rfl), trivial⟩ ⟨hq.1, hq.2.1, hq.2.2.1, (hq.2.2.2.sift fun y hy => Or.inr (N y hy)).mono (by decide) (by decide)⟩⟩
theorem main_1_1 : Claimed_1_1 := comes_1 fun _ _ _ _ _ _ h hF => ⟨h.1, hF⟩
theorem main_1_2 : Claimed_1_2 := comes_1 fun _ _ _ _ _ _ h hF => ⟨h.2.1, hF⟩

end Jvm.Pilot.@@N@@
namespace Jvm.Pilot.@@N@@
open Jvm Jvm.ClassFile Sem Op Lib Jvm.Free Jvm.Stand Jvm.Pilot.@@N@@.Jvm.D
/-! MADE BY PROGRAM (witnessworld.py) out of the Statement's table words and the real class files: 31 classes; the members and pool entries that the words name. The judged class is class 1, her method 1. -/
namespace start1
open Jvm.ClassFile
def u (s : String) : CpInfo := .utf8 (stringToUtf16 s)
/-- a pool by its gaps: so many unusable entries, then the entry; so many at the end -/
def gap : Nat → List CpInfo → List CpInfo
  | 0, r => r
  | n + 1, r => .unusable :: gap n r
def poolList (es : List (Nat × CpInfo)) (last : Nat) : List CpInfo := es.foldr (fun e r => gap e.1 (e.2 :: r)) (gap last [])
def pool (es : List (Nat × CpInfo)) (last : Nat) : Array CpInfo := ⟨poolList es last⟩
def fileOf (pool : Array CpInfo) (this : Nat) (attrs : Array Attribute := #[]) (ms : Array MethodInfo := #[]) (fl : Nat := 33) (sup : Nat := 0) (ifs : Array Nat := #[]) (fds : Array FieldInfo := #[]) : ClassFile where
  minorVersion := 0
  majorVersion := 65
  constantPool := pool
  accessFlags := fl
  thisClass := this
  superClass := sup
  interfaces := ifs
  fields := fds
  methods := ms
  attributes := attrs
def plain (name : String) (sup : Option ClassId) : Class where
  name := name
  kind := .ordinary
  loader := none
  accessFlags := 33
  super := sup
  interfaces := #[]
  cf := none
  fields := #[]
  methods := #[]
  instanceTypes := #[]
  staticTypes := #[]
  resolved := #[]
  callSites := []
  init := .initialized
  statics := none
  mirror := none

def pool0 : Array CpInfo := pool [(5, u "<init>"), (0, u "()V"), (1, .class_ 10), (1, u "java/lang/Object")] 113

def k0c0 : Code := { maxStack := 0, maxLocals := 1, code := object_method_1_code, exceptionTable := #[], attributes := #[] }
def k0m0 : Method := { name := "<init>", desc := "()V", sig := { parameters := [], returnType := none }, accessFlags := 1, code := some k0c0 }
/-- java/lang/Object -/
def k0 : Class := { plain "java/lang/Object" none with
  accessFlags := 33
  interfaces := #[]
  cf := some (fileOf pool0 8 #[] #[{ accessFlags := 1, nameIndex := 5, descriptorIndex := 6, attributes := #[] }] 33 0 #[] #[])
  fields := #[]
  methods := #[k0m0]
  instanceTypes := #[]
  staticTypes := #[]
  resolved := Array.replicate 124 none
  statics := none }

def pool1 : Array CpInfo := pool [(2, .class_ 4), (1, u "java/lang/Object"), (0, u "<init>"), (0, u "()V"), (0, .methodref 8 9), (0, .class_ 10), (0, .nameAndType 11 12), (0, u "com/example/beanloft/beanloft/naming/GlobalNameFormsPinLaw"), (0, u "ch"), (0, u "(I)C"), (0, .methodref 14 15), (0, .class_ 16), (0, .nameAndType 17 18), (0, u "java/lang/String"), (0, u "valueOf"), (0, u "(C)Ljava/lang/String;"), (0, .class_ 20), (0, u "com/example/beanloft/beanloft/naming/GlobalName"), (0, .methodref 19 22), (0, .nameAndType 5 23), (0, u "(Ljava/lang/String;Ljava/lang/String;Ljava/lang/String;Ljava/lang/String;)V"), (0, .methodref 19 25), (0, .nameAndType 26 27), (0, u "forms"), (0, u "(I)Ljava/util/List;"), (0, .interfaceMethodref 29 30), (0, .class_ 31), (0, .nameAndType 32 33), (0, u "java/util/List"), (0, u "size"), (0, u "()I"), (0, .interfaceMethodref 29 35), (0, .nameAndType 36 37), (0, u "get"), (0, u "(I)Ljava/lang/Object;"), (0, .methodref 8 39), (0, .nameAndType 40 41), (0, u "same"), (0, u "(Lcom/example/beanloft/beanloft/naming/GlobalName;Ljava/lang/String;Ljava/lang/String;Ljava/lang/String;Ljava/lang/String;)Z"), (0, .methodref 14 43), (0, .nameAndType 44 45), (0, u "equals"), (0, u "(Ljava/lang/Object;)Z"), (0, .methodref 19 47), (0, .nameAndType 48 49), (0, u "appName"), (0, u "()Ljava/lang/String;"), (0, .methodref 8 51), (0, .nameAndType 52 53), (0, u "eq"), (0, u "(Ljava/lang/String;Ljava/lang/String;)Z"), (0, .methodref 19 55), (0, .nameAndType 56 49), (0, u "moduleName"), (0, .methodref 19 58), (0, .nameAndType 59 49), (0, u "beanName"), (0, .methodref 19 61), (0, .nameAndType 62 49), (0, u "viewName"), (2, u "law"), (0, u "(III)Z")] 3

def k1m0 : Method := { name := "<init>", desc := "()V", sig := { parameters := [], returnType := none }, accessFlags := 1, code := none }
def k1c1 : Code := { maxStack := 6, maxLocals := 9, code := code, exceptionTable := #[], attributes := #[] }
def k1m1 : Method := { name := "law", desc := "(III)Z", sig := { parameters := [.int, .int, .int], returnType := some .boolean }, accessFlags := 9, code := some k1c1 }
def k1c2 : Code := { maxStack := 2, maxLocals := 2, code := method_3_code, exceptionTable := #[], attributes := #[] }
def k1m2 : Method := { name := "ch", desc := "(I)C", sig := { parameters := [.int], returnType := some .char }, accessFlags := 10, code := some k1c2 }
def k1c3 : Code := { maxStack := 2, maxLocals := 2, code := method_4_code, exceptionTable := #[], attributes := #[] }
def k1m3 : Method := { name := "eq", desc := "(Ljava/lang/String;Ljava/lang/String;)Z", sig := { parameters := [(.object "java/lang/String"), (.object "java/lang/String")], returnType := some .boolean }, accessFlags := 10, code := some k1c3 }
def k1c4 : Code := { maxStack := 2, maxLocals := 5, code := method_5_code, exceptionTable := #[], attributes := #[] }
def k1m4 : Method := { name := "same", desc := "(Lcom/example/beanloft/beanloft/naming/GlobalName;Ljava/lang/String;Ljava/lang/String;Ljava/lang/String;Ljava/lang/String;)Z", sig := { parameters := [(.object "com/example/beanloft/beanloft/naming/GlobalName"), (.object "java/lang/String"), (.object "java/lang/String"), (.object "java/lang/String"), (.object "java/lang/String")], returnType := some .boolean }, accessFlags := 10, code := some k1c4 }
/-- com/example/beanloft/beanloft/naming/GlobalNameFormsPinLaw -/
def k1 : Class := { plain "com/example/beanloft/beanloft/naming/GlobalNameFormsPinLaw" (some 0) with
  accessFlags := 49
  interfaces := #[]
  cf := some (fileOf pool1 8 #[] #[{ accessFlags := 1, nameIndex := 5, descriptorIndex := 6, attributes := #[] }, { accessFlags := 9, nameIndex := 65, descriptorIndex := 66, attributes := #[] }, { accessFlags := 10, nameIndex := 11, descriptorIndex := 12, attributes := #[] }, { accessFlags := 10, nameIndex := 52, descriptorIndex := 53, attributes := #[] }, { accessFlags := 10, nameIndex := 40, descriptorIndex := 41, attributes := #[] }] 49 2 #[] #[])
  fields := #[]
  methods := #[k1m0, k1m1, k1m2, k1m3, k1m4]
  instanceTypes := #[]
  staticTypes := #[]
  resolved := Array.replicate 70 none
  statics := none }

def pool2 : Array CpInfo := pool [(1, .class_ 2), (0, u "java/io/Serializable"), (0, .class_ 4), (0, u "java/lang/Object")] 2

/-- java/io/Serializable -/
def k2 : Class := { plain "java/io/Serializable" (some 0) with
  accessFlags := 1537
  interfaces := #[]
  cf := some (fileOf pool2 1 #[] #[] 1537 3 #[] #[])
  fields := #[]
  methods := #[]
  instanceTypes := #[]
  staticTypes := #[]
  resolved := Array.replicate 7 none
  statics := none }

def pool3 : Array CpInfo := pool [(1, .class_ 2), (0, u "java/lang/Comparable"), (0, .class_ 4), (0, u "java/lang/Object")] 7

/-- java/lang/Comparable -/
def k3 : Class := { plain "java/lang/Comparable" (some 0) with
  accessFlags := 1537
  interfaces := #[]
  cf := some (fileOf pool3 1 #[] #[] 1537 3 #[] #[])
  fields := #[]
  methods := #[]
  instanceTypes := #[]
  staticTypes := #[]
  resolved := Array.replicate 12 none
  statics := none }

def pool4 : Array CpInfo := pool [(2, .class_ 4), (1, u "java/lang/CharSequence"), (42, .class_ 48), (0, u "java/lang/CharSequence$1CodePointIterator"), (10, .class_ 60), (0, u "java/lang/CharSequence$1CharIterator"), (5, .class_ 67), (0, u "java/lang/Object"), (10, u "toString"), (0, u "()Ljava/lang/String;")] 51

def k4m0 : Method := { name := "toString", desc := "()Ljava/lang/String;", sig := { parameters := [], returnType := some (.object "java/lang/String") }, accessFlags := 1025, code := none }
/-- java/lang/CharSequence -/
def k4 : Class := { plain "java/lang/CharSequence" (some 0) with
  accessFlags := 1537
  interfaces := #[]
  cf := some (fileOf pool4 2 #[.nestMembers #[47, 59]] #[{ accessFlags := 1025, nameIndex := 78, descriptorIndex := 79, attributes := #[] }] 1537 66 #[] #[])
  fields := #[]
  methods := #[k4m0]
  instanceTypes := #[]
  staticTypes := #[]
  resolved := Array.replicate 131 none
  statics := none }

def pool5 : Array CpInfo := pool [(1, .class_ 2), (0, u "java/lang/constant/Constable"), (0, .class_ 4), (0, u "java/lang/Object")] 6

/-- java/lang/constant/Constable -/
def k5 : Class := { plain "java/lang/constant/Constable" (some 0) with
  accessFlags := 1537
  interfaces := #[]
  cf := some (fileOf pool5 1 #[] #[] 1537 3 #[] #[])
  fields := #[]
  methods := #[]
  instanceTypes := #[]
  staticTypes := #[]
  resolved := Array.replicate 11 none
  statics := none }

def pool6 : Array CpInfo := pool [(1, .class_ 2), (0, u "java/lang/constant/ConstantDesc"), (0, .class_ 4), (0, u "java/lang/Object")] 32

/-- java/lang/constant/ConstantDesc -/
def k6 : Class := { plain "java/lang/constant/ConstantDesc" (some 0) with
  accessFlags := 1537
  interfaces := #[]
  cf := some (fileOf pool6 1 #[] #[] 1537 3 #[] #[])
  fields := #[]
  methods := #[]
  instanceTypes := #[]
  staticTypes := #[]
  resolved := Array.replicate 37 none
  statics := none }

def pool7 : Array CpInfo := pool [(1, .methodref 2 3), (0, .class_ 4), (0, .nameAndType 5 6), (0, u "java/lang/Object"), (0, u "<init>"), (0, u "()V"), (2, .fieldref 10 11), (0, .class_ 12), (0, .nameAndType 13 14), (0, u "java/lang/String"), (0, u "value"), (0, u "[B"), (0, .fieldref 10 16), (0, .nameAndType 17 18), (0, u "coder"), (0, u "B"), (2, u "hash"), (0, u "I"), (2, u "hashIsZero"), (0, u "Z"), (11, .fieldref 10 39), (0, .nameAndType 40 26), (0, u "COMPACT_STRINGS"), (12, u "toBytes"), (53, .class_ 109), (1, u "java/lang/StringLatin1"), (32, u "()Z"), (66, .methodref 10 210), (0, .nameAndType 5 211), (0, u "([BB)V"), (123, .methodref 10 336), (0, .nameAndType 17 337), (0, u "()B"), (31, u "(C)Z"), (92, .nameAndType 463 464), (0, u "toString"), (0, u "()Ljava/lang/String;"), (27, .methodref 10 493), (0, .nameAndType 494 142), (0, u "isLatin1"), (48, u "equals"), (4, u "(Ljava/lang/CharSequence;)Z"), (24, u "(Ljava/lang/Object;)Z"), (1, .class_ 576), (0, u "java/lang/CharSequence"), (12, u "([B[B)I"), (9, u "CASE_INSENSITIVE_ORDER"), (0, u "Ljava/util/Comparator;"), (34, u "indexOf"), (11, .methodref 107 648), (0, .nameAndType 635 589), (43, u "isEmpty"), (17, .interfaceMethodref 575 462), (0, .methodref 10 712), (0, .nameAndType 635 713), (0, u "(Ljava/lang/String;)I"), (68, u "valueOf"), (0, u "(C)Ljava/lang/String;"), (231, .methodref 107 1016), (0, .nameAndType 1017 369), (0, u "canEncode"), (0, .methodref 107 1019), (0, .nameAndType 53 1020), (0, u "(C)[B"), (80, u "serialPersistentFields"), (0, u "[Ljava/io/ObjectStreamField;"), (0, .class_ 1104), (0, u "java/lang/String$CaseInsensitiveComparator"), (1, .class_ 1107), (0, u "java/io/Serializable"), (0, .class_ 1109), (0, u "java/lang/Comparable"), (0, .class_ 1111), (0, u "java/lang/constant/Constable"), (0, .class_ 1113), (0, u "java/lang/constant/ConstantDesc"), (2, u "serialVersionUID"), (0, u "J"), (3, u "REPL"), (0, u "C"), (2, u "LATIN1"), (1, u "UTF16"), (163, u "contains")] 159

def k7m0 : Method := { name := "<init>", desc := "()V", sig := { parameters := [], returnType := none }, accessFlags := 1, code := none }
def k7c1 : Code := { maxStack := 1, maxLocals := 1, code := jdk_42_method_55_code, exceptionTable := #[], attributes := #[] }
def k7m1 : Method := { name := "isEmpty", desc := "()Z", sig := { parameters := [], returnType := some .boolean }, accessFlags := 1, code := some k7c1 }
def k7c2 : Code := { maxStack := 2, maxLocals := 3, code := jdk_42_method_66_code, exceptionTable := #[], attributes := #[] }
def k7m2 : Method := { name := "equals", desc := "(Ljava/lang/Object;)Z", sig := { parameters := [(.object "java/lang/Object")], returnType := some .boolean }, accessFlags := 1, code := some k7c2 }
def k7c3 : Code := { maxStack := 2, maxLocals := 3, code := jdk_42_method_84_code, exceptionTable := #[], attributes := #[] }
def k7m3 : Method := { name := "indexOf", desc := "(Ljava/lang/String;)I", sig := { parameters := [(.object "java/lang/String")], returnType := some .int }, accessFlags := 1, code := some k7c3 }
def k7c4 : Code := { maxStack := 2, maxLocals := 2, code := jdk_42_method_97_code, exceptionTable := #[], attributes := #[] }
def k7m4 : Method := { name := "contains", desc := "(Ljava/lang/CharSequence;)Z", sig := { parameters := [(.object "java/lang/CharSequence")], returnType := some .boolean }, accessFlags := 1, code := some k7c4 }
def k7c5 : Code := { maxStack := 1, maxLocals := 1, code := jdk_42_method_126_code, exceptionTable := #[], attributes := #[] }
def k7m5 : Method := { name := "toString", desc := "()Ljava/lang/String;", sig := { parameters := [], returnType := some (.object "java/lang/String") }, accessFlags := 1, code := some k7c5 }
def k7c6 : Code := { maxStack := 4, maxLocals := 1, code := jdk_42_method_139_code, exceptionTable := #[], attributes := #[] }
def k7m6 : Method := { name := "valueOf", desc := "(C)Ljava/lang/String;", sig := { parameters := [.char], returnType := some (.object "java/lang/String") }, accessFlags := 9, code := some k7c6 }
def k7c7 : Code := { maxStack := 2, maxLocals := 3, code := jdk_42_method_151_code, exceptionTable := #[], attributes := #[] }
def k7m7 : Method := { name := "<init>", desc := "([BB)V", sig := { parameters := [(.array .byte), .byte], returnType := none }, accessFlags := 0, code := some k7c7 }
def k7c8 : Code := { maxStack := 1, maxLocals := 1, code := jdk_42_method_152_code, exceptionTable := #[], attributes := #[] }
def k7m8 : Method := { name := "coder", desc := "()B", sig := { parameters := [], returnType := some .byte }, accessFlags := 0, code := some k7c8 }
def k7c9 : Code := { maxStack := 1, maxLocals := 1, code := jdk_42_method_154_code, exceptionTable := #[], attributes := #[] }
def k7m9 : Method := { name := "isLatin1", desc := "()Z", sig := { parameters := [], returnType := some .boolean }, accessFlags := 0, code := some k7c9 }
/-- java/lang/String -/
def k7 : Class := { plain "java/lang/String" (some 0) with
  accessFlags := 49
  interfaces := #[2, 3, 4, 5, 6]
  cf := some (fileOf pool7 10 #[.nestMembers #[1103]] #[{ accessFlags := 1, nameIndex := 5, descriptorIndex := 6, attributes := #[] }, { accessFlags := 1, nameIndex := 692, descriptorIndex := 142, attributes := #[] }, { accessFlags := 1, nameIndex := 543, descriptorIndex := 573, attributes := #[] }, { accessFlags := 1, nameIndex := 635, descriptorIndex := 713, attributes := #[] }, { accessFlags := 1, nameIndex := 1291, descriptorIndex := 548, attributes := #[] }, { accessFlags := 1, nameIndex := 463, descriptorIndex := 464, attributes := #[] }, { accessFlags := 9, nameIndex := 782, descriptorIndex := 783, attributes := #[] }, { accessFlags := 0, nameIndex := 5, descriptorIndex := 211, attributes := #[] }, { accessFlags := 0, nameIndex := 17, descriptorIndex := 337, attributes := #[] }, { accessFlags := 0, nameIndex := 494, descriptorIndex := 142, attributes := #[] }] 49 2 #[1106, 1108, 575, 1110, 1112] #[{ accessFlags := 18, nameIndex := 13, descriptorIndex := 14, attributes := #[] }, { accessFlags := 18, nameIndex := 17, descriptorIndex := 18, attributes := #[] }, { accessFlags := 2, nameIndex := 21, descriptorIndex := 22, attributes := #[] }, { accessFlags := 2, nameIndex := 25, descriptorIndex := 26, attributes := #[] }, { accessFlags := 26, nameIndex := 1116, descriptorIndex := 1117, attributes := #[] }, { accessFlags := 24, nameIndex := 40, descriptorIndex := 26, attributes := #[] }, { accessFlags := 26, nameIndex := 1101, descriptorIndex := 1102, attributes := #[] }, { accessFlags := 26, nameIndex := 1121, descriptorIndex := 1122, attributes := #[] }, { accessFlags := 25, nameIndex := 599, descriptorIndex := 600, attributes := #[] }, { accessFlags := 24, nameIndex := 1125, descriptorIndex := 18, attributes := #[] }, { accessFlags := 24, nameIndex := 1127, descriptorIndex := 18, attributes := #[] }])
  fields := #[{ name := "value", type := (.array .byte), accessFlags := 18, slot := 0, constantValue := 0 }, { name := "coder", type := .byte, accessFlags := 18, slot := 1, constantValue := 0 }, { name := "hash", type := .int, accessFlags := 2, slot := 2, constantValue := 0 }, { name := "hashIsZero", type := .boolean, accessFlags := 2, slot := 3, constantValue := 0 }, { name := "serialVersionUID", type := .long, accessFlags := 26, slot := 0, constantValue := 0 }, { name := "COMPACT_STRINGS", type := .boolean, accessFlags := 24, slot := 1, constantValue := 0 }, { name := "serialPersistentFields", type := (.array (.object "java/io/ObjectStreamField")), accessFlags := 26, slot := 2, constantValue := 0 }, { name := "REPL", type := .char, accessFlags := 26, slot := 3, constantValue := 0 }, { name := "CASE_INSENSITIVE_ORDER", type := (.object "java/util/Comparator"), accessFlags := 25, slot := 4, constantValue := 0 }, { name := "LATIN1", type := .byte, accessFlags := 24, slot := 5, constantValue := 0 }, { name := "UTF16", type := .byte, accessFlags := 24, slot := 6, constantValue := 0 }]
  methods := #[k7m0, k7m1, k7m2, k7m3, k7m4, k7m5, k7m6, k7m7, k7m8, k7m9]
  instanceTypes := #[(.array .byte), .byte, .int, .boolean]
  staticTypes := #[.long, .boolean, (.array (.object "java/io/ObjectStreamField")), .char, (.object "java/util/Comparator"), .byte, .byte]
  resolved := Array.replicate 1451 none
  statics := some 0 }

def pool8 : Array CpInfo := pool [(4, .class_ 6), (1, u "java/lang/Object"), (0, u "<init>"), (0, u "()V"), (5, .class_ 16), (1, u "java/lang/StringLatin1"), (73, u "canEncode"), (8, .methodref 14 100), (0, .nameAndType 101 102), (0, u "indexOf"), (0, u "([BI[BII)I"), (2, u "(C)Z"), (15, u "$assertionsDisabled"), (0, u "Z"), (98, .class_ 223), (1, u "java/lang/StringLatin1$LinesSpliterator"), (63, u "([B[B)I"), (92, u "toBytes"), (1, u "(C)[B"), (7, .class_ 391), (0, u "java/lang/StringLatin1$CharsSpliterator")] 3

def k8m0 : Method := { name := "<init>", desc := "()V", sig := { parameters := [], returnType := none }, accessFlags := 0, code := none }
def k8c1 : Code := { maxStack := 2, maxLocals := 1, code := jdk_43_method_3_code, exceptionTable := #[], attributes := #[] }
def k8m1 : Method := { name := "canEncode", desc := "(C)Z", sig := { parameters := [.char], returnType := some .boolean }, accessFlags := 9, code := some k8c1 }
def k8c2 : Code := { maxStack := 5, maxLocals := 2, code := jdk_43_method_24_code, exceptionTable := #[], attributes := #[] }
def k8m2 : Method := { name := "indexOf", desc := "([B[B)I", sig := { parameters := [(.array .byte), (.array .byte)], returnType := some .int }, accessFlags := 9, code := some k8c2 }
def k8c3 : Code := { maxStack := 3, maxLocals := 11, code := jdk_43_method_25_code, exceptionTable := #[], attributes := #[] }
def k8m3 : Method := { name := "indexOf", desc := "([BI[BII)I", sig := { parameters := [(.array .byte), .int, (.array .byte), .int, .int], returnType := some .int }, accessFlags := 9, code := some k8c3 }
def k8c4 : Code := { maxStack := 4, maxLocals := 1, code := jdk_43_method_46_code, exceptionTable := #[], attributes := #[] }
def k8m4 : Method := { name := "toBytes", desc := "(C)[B", sig := { parameters := [.char], returnType := some (.array .byte) }, accessFlags := 9, code := some k8c4 }
/-- java/lang/StringLatin1 -/
def k8 : Class := { plain "java/lang/StringLatin1" (some 0) with
  accessFlags := 48
  interfaces := #[]
  cf := some (fileOf pool8 14 #[.nestMembers #[390, 221]] #[{ accessFlags := 0, nameIndex := 7, descriptorIndex := 8, attributes := #[] }, { accessFlags := 9, nameIndex := 90, descriptorIndex := 105, attributes := #[] }, { accessFlags := 9, nameIndex := 101, descriptorIndex := 287, attributes := #[] }, { accessFlags := 9, nameIndex := 101, descriptorIndex := 102, attributes := #[] }, { accessFlags := 9, nameIndex := 380, descriptorIndex := 382, attributes := #[] }] 48 4 #[] #[{ accessFlags := 4120, nameIndex := 121, descriptorIndex := 122, attributes := #[] }])
  fields := #[{ name := "$assertionsDisabled", type := .boolean, accessFlags := 4120, slot := 0, constantValue := 0 }]
  methods := #[k8m0, k8m1, k8m2, k8m3, k8m4]
  instanceTypes := #[]
  staticTypes := #[.boolean]
  resolved := Array.replicate 395 none
  statics := none }

def pool9 : Array CpInfo := pool [(1, .methodref 2 3), (0, .class_ 4), (0, .nameAndType 5 6), (0, u "java/lang/Object"), (0, u "<init>"), (0, u "()V"), (0, .class_ 8), (0, u "java/lang/Record")] 13

def k9c0 : Code := { maxStack := 1, maxLocals := 1, code := jdk_30_method_1_code, exceptionTable := #[], attributes := #[] }
def k9m0 : Method := { name := "<init>", desc := "()V", sig := { parameters := [], returnType := none }, accessFlags := 4, code := some k9c0 }
/-- java/lang/Record -/
def k9 : Class := { plain "java/lang/Record" (some 0) with
  accessFlags := 1057
  interfaces := #[]
  cf := some (fileOf pool9 7 #[] #[{ accessFlags := 4, nameIndex := 5, descriptorIndex := 6, attributes := #[] }] 1057 2 #[] #[])
  fields := #[]
  methods := #[k9m0]
  instanceTypes := #[]
  staticTypes := #[]
  resolved := Array.replicate 22 none
  statics := none }

def pool10 : Array CpInfo := pool [(1, .methodref 2 3), (0, .class_ 4), (0, .nameAndType 5 6), (0, u "java/lang/Record"), (0, u "<init>"), (0, u "()V"), (0, .string 8), (0, u "moduleName"), (0, .methodref 10 11), (0, .class_ 12), (0, .nameAndType 13 14), (0, u "java/util/Objects"), (0, u "requireNonNull"), (0, u "(Ljava/lang/Object;Ljava/lang/String;)Ljava/lang/Object;"), (0, .string 16), (0, u "beanName"), (0, .string 18), (0, u "application name"), (0, .methodref 20 21), (0, .class_ 22), (0, .nameAndType 23 24), (0, u "com/example/beanloft/beanloft/naming/GlobalName"), (0, u "checkSegment"), (0, u "(Ljava/lang/String;Ljava/lang/String;Ljava/lang/String;Ljava/lang/String;)V"), (0, .string 26), (0, u "module name"), (0, .string 28), (0, u "bean name"), (0, .string 30), (0, u "view name"), (0, .fieldref 20 32), (0, .nameAndType 33 34), (0, u "appName"), (0, u "Ljava/lang/String;"), (0, .fieldref 20 36), (0, .nameAndType 8 34), (0, .fieldref 20 38), (0, .nameAndType 16 34), (0, .fieldref 20 40), (0, .nameAndType 41 34), (0, u "viewName"), (5, .class_ 49), (1, u "java/lang/String"), (34, u "()Ljava/lang/String;"), (0, .methodref 20 86), (0, .nameAndType 5 24), (0, .interfaceMethodref 88 89), (0, .class_ 90), (0, .nameAndType 91 92), (0, u "java/util/List"), (0, u "of"), (0, u "(Ljava/lang/Object;Ljava/lang/Object;)Ljava/util/List;"), (0, .interfaceMethodref 88 94), (0, .nameAndType 91 95), (0, u "(Ljava/lang/Object;)Ljava/util/List;"), (25, .methodref 47 122), (0, .nameAndType 123 124), (0, u "isEmpty"), (0, u "()Z"), (0, .string 126), (0, u "/"), (0, .methodref 47 128), (0, .nameAndType 129 130), (0, u "contains"), (0, u "(Ljava/lang/CharSequence;)Z"), (0, .string 132), (0, u "!"), (21, u "forms"), (0, u "(I)Ljava/util/List;")] 43

def k10c0 : Code := { maxStack := 4, maxLocals := 5, code := prog_9_method_1_code, exceptionTable := #[], attributes := #[] }
def k10m0 : Method := { name := "<init>", desc := "(Ljava/lang/String;Ljava/lang/String;Ljava/lang/String;Ljava/lang/String;)V", sig := { parameters := [(.object "java/lang/String"), (.object "java/lang/String"), (.object "java/lang/String"), (.object "java/lang/String")], returnType := none }, accessFlags := 1, code := some k10c0 }
def k10c1 : Code := { maxStack := 7, maxLocals := 3, code := prog_9_method_4_code, exceptionTable := #[], attributes := #[] }
def k10m1 : Method := { name := "forms", desc := "(I)Ljava/util/List;", sig := { parameters := [.int], returnType := some (.object "java/util/List") }, accessFlags := 1, code := some k10c1 }
def k10c2 : Code := { maxStack := 7, maxLocals := 4, code := prog_9_method_9_code, exceptionTable := #[], attributes := #[] }
def k10m2 : Method := { name := "checkSegment", desc := "(Ljava/lang/String;Ljava/lang/String;Ljava/lang/String;Ljava/lang/String;)V", sig := { parameters := [(.object "java/lang/String"), (.object "java/lang/String"), (.object "java/lang/String"), (.object "java/lang/String")], returnType := none }, accessFlags := 10, code := some k10c2 }
def k10c3 : Code := { maxStack := 1, maxLocals := 1, code := prog_9_method_12_code, exceptionTable := #[], attributes := #[] }
def k10m3 : Method := { name := "appName", desc := "()Ljava/lang/String;", sig := { parameters := [], returnType := some (.object "java/lang/String") }, accessFlags := 1, code := some k10c3 }
def k10c4 : Code := { maxStack := 1, maxLocals := 1, code := prog_9_method_13_code, exceptionTable := #[], attributes := #[] }
def k10m4 : Method := { name := "moduleName", desc := "()Ljava/lang/String;", sig := { parameters := [], returnType := some (.object "java/lang/String") }, accessFlags := 1, code := some k10c4 }
def k10c5 : Code := { maxStack := 1, maxLocals := 1, code := prog_9_method_14_code, exceptionTable := #[], attributes := #[] }
def k10m5 : Method := { name := "beanName", desc := "()Ljava/lang/String;", sig := { parameters := [], returnType := some (.object "java/lang/String") }, accessFlags := 1, code := some k10c5 }
def k10c6 : Code := { maxStack := 1, maxLocals := 1, code := prog_9_method_15_code, exceptionTable := #[], attributes := #[] }
def k10m6 : Method := { name := "viewName", desc := "()Ljava/lang/String;", sig := { parameters := [], returnType := some (.object "java/lang/String") }, accessFlags := 1, code := some k10c6 }
/-- com/example/beanloft/beanloft/naming/GlobalName -/
def k10 : Class := { plain "com/example/beanloft/beanloft/naming/GlobalName" (some 9) with
  accessFlags := 49
  interfaces := #[]
  cf := some (fileOf pool10 20 #[] #[{ accessFlags := 1, nameIndex := 5, descriptorIndex := 24, attributes := #[] }, { accessFlags := 1, nameIndex := 154, descriptorIndex := 155, attributes := #[] }, { accessFlags := 10, nameIndex := 23, descriptorIndex := 24, attributes := #[] }, { accessFlags := 1, nameIndex := 33, descriptorIndex := 84, attributes := #[] }, { accessFlags := 1, nameIndex := 8, descriptorIndex := 84, attributes := #[] }, { accessFlags := 1, nameIndex := 16, descriptorIndex := 84, attributes := #[] }, { accessFlags := 1, nameIndex := 41, descriptorIndex := 84, attributes := #[] }] 49 2 #[] #[{ accessFlags := 18, nameIndex := 33, descriptorIndex := 34, attributes := #[] }, { accessFlags := 18, nameIndex := 8, descriptorIndex := 34, attributes := #[] }, { accessFlags := 18, nameIndex := 16, descriptorIndex := 34, attributes := #[] }, { accessFlags := 18, nameIndex := 41, descriptorIndex := 34, attributes := #[] }])
  fields := #[{ name := "appName", type := (.object "java/lang/String"), accessFlags := 18, slot := 0, constantValue := 0 }, { name := "moduleName", type := (.object "java/lang/String"), accessFlags := 18, slot := 1, constantValue := 0 }, { name := "beanName", type := (.object "java/lang/String"), accessFlags := 18, slot := 2, constantValue := 0 }, { name := "viewName", type := (.object "java/lang/String"), accessFlags := 18, slot := 3, constantValue := 0 }]
  methods := #[k10m0, k10m1, k10m2, k10m3, k10m4, k10m5, k10m6]
  instanceTypes := #[(.object "java/lang/String"), (.object "java/lang/String"), (.object "java/lang/String"), (.object "java/lang/String")]
  staticTypes := #[]
  resolved := Array.replicate 199 none
  statics := none }

def pool11 : Array CpInfo := pool [(2, .class_ 4), (1, u "java/lang/Object"), (0, u "<init>"), (0, u "()V"), (35, .class_ 44), (1, u "java/util/Objects"), (0, u "requireNonNull"), (0, u "(Ljava/lang/Object;)Ljava/lang/Object;"), (47, u "(Ljava/lang/Object;Ljava/lang/String;)Ljava/lang/Object;")] 89

def k11m0 : Method := { name := "<init>", desc := "()V", sig := { parameters := [], returnType := none }, accessFlags := 2, code := none }
def k11c1 : Code := { maxStack := 2, maxLocals := 1, code := jdk_31_method_10_code, exceptionTable := #[], attributes := #[] }
def k11m1 : Method := { name := "requireNonNull", desc := "(Ljava/lang/Object;)Ljava/lang/Object;", sig := { parameters := [(.object "java/lang/Object")], returnType := some (.object "java/lang/Object") }, accessFlags := 9, code := some k11c1 }
def k11c2 : Code := { maxStack := 3, maxLocals := 2, code := jdk_31_method_11_code, exceptionTable := #[], attributes := #[] }
def k11m2 : Method := { name := "requireNonNull", desc := "(Ljava/lang/Object;Ljava/lang/String;)Ljava/lang/Object;", sig := { parameters := [(.object "java/lang/Object"), (.object "java/lang/String")], returnType := some (.object "java/lang/Object") }, accessFlags := 9, code := some k11c2 }
/-- java/util/Objects -/
def k11 : Class := { plain "java/util/Objects" (some 0) with
  accessFlags := 49
  interfaces := #[]
  cf := some (fileOf pool11 42 #[] #[{ accessFlags := 2, nameIndex := 5, descriptorIndex := 6, attributes := #[] }, { accessFlags := 9, nameIndex := 45, descriptorIndex := 46, attributes := #[] }, { accessFlags := 9, nameIndex := 45, descriptorIndex := 94, attributes := #[] }] 49 2 #[] #[])
  fields := #[]
  methods := #[k11m0, k11m1, k11m2]
  instanceTypes := #[]
  staticTypes := #[]
  resolved := Array.replicate 184 none
  statics := none }

def pool12 : Array CpInfo := pool [(8, .class_ 10), (1, u "java/lang/Iterable"), (24, .class_ 36), (0, u "java/lang/Object")] 25

/-- java/lang/Iterable -/
def k12 : Class := { plain "java/lang/Iterable" (some 0) with
  accessFlags := 1537
  interfaces := #[]
  cf := some (fileOf pool12 8 #[] #[] 1537 35 #[] #[])
  fields := #[]
  methods := #[]
  instanceTypes := #[]
  staticTypes := #[]
  resolved := Array.replicate 62 none
  statics := none }

def pool13 : Array CpInfo := pool [(10, .class_ 12), (1, u "java/util/Collection"), (47, .class_ 61), (0, u "java/lang/Object"), (0, .class_ 63), (0, u "java/lang/Iterable")] 51

/-- java/util/Collection -/
def k13 : Class := { plain "java/util/Collection" (some 0) with
  accessFlags := 1537
  interfaces := #[12]
  cf := some (fileOf pool13 10 #[] #[] 1537 60 #[62] #[])
  fields := #[]
  methods := #[]
  instanceTypes := #[]
  staticTypes := #[]
  resolved := Array.replicate 115 none
  statics := none }

def pool14 : Array CpInfo := pool [(8, .class_ 10), (1, u "java/util/SequencedCollection"), (15, .class_ 27), (0, u "java/lang/Object"), (0, .class_ 29), (0, u "java/util/Collection")] 27

/-- java/util/SequencedCollection -/
def k14 : Class := { plain "java/util/SequencedCollection" (some 0) with
  accessFlags := 1537
  interfaces := #[13]
  cf := some (fileOf pool14 8 #[] #[] 1537 26 #[28] #[])
  fields := #[]
  methods := #[]
  instanceTypes := #[]
  staticTypes := #[]
  resolved := Array.replicate 57 none
  statics := none }

def pool15 : Array CpInfo := pool [(8, .class_ 10), (1, u "java/util/List"), (20, u "(Ljava/lang/Object;)V"), (16, u "<init>"), (26, u "get"), (0, u "(I)Ljava/lang/Object;"), (2, u "size"), (0, u "()I"), (7, u "of"), (7, .class_ 97), (0, u "java/util/ImmutableCollections$List12"), (0, .methodref 96 99), (0, .nameAndType 48 31), (0, .methodref 96 101), (0, .nameAndType 48 102), (0, u "(Ljava/lang/Object;Ljava/lang/Object;)V"), (0, .class_ 104), (0, u "java/lang/Object"), (15, .class_ 121), (0, u "java/util/SequencedCollection"), (76, u "(Ljava/lang/Object;)Ljava/util/List;"), (2, u "(Ljava/lang/Object;Ljava/lang/Object;)Ljava/util/List;")] 49

def k15m0 : Method := { name := "size", desc := "()I", sig := { parameters := [], returnType := some .int }, accessFlags := 1025, code := none }
def k15m1 : Method := { name := "get", desc := "(I)Ljava/lang/Object;", sig := { parameters := [.int], returnType := some (.object "java/lang/Object") }, accessFlags := 1025, code := none }
def k15c2 : Code := { maxStack := 3, maxLocals := 1, code := jdk_40_method_37_code, exceptionTable := #[], attributes := #[] }
def k15m2 : Method := { name := "of", desc := "(Ljava/lang/Object;)Ljava/util/List;", sig := { parameters := [(.object "java/lang/Object")], returnType := some (.object "java/util/List") }, accessFlags := 9, code := some k15c2 }
def k15c3 : Code := { maxStack := 4, maxLocals := 2, code := jdk_40_method_38_code, exceptionTable := #[], attributes := #[] }
def k15m3 : Method := { name := "of", desc := "(Ljava/lang/Object;Ljava/lang/Object;)Ljava/util/List;", sig := { parameters := [(.object "java/lang/Object"), (.object "java/lang/Object")], returnType := some (.object "java/util/List") }, accessFlags := 9, code := some k15c3 }
/-- java/util/List -/
def k15 : Class := { plain "java/util/List" (some 0) with
  accessFlags := 1537
  interfaces := #[14]
  cf := some (fileOf pool15 8 #[] #[{ accessFlags := 1025, nameIndex := 79, descriptorIndex := 80, attributes := #[] }, { accessFlags := 1025, nameIndex := 75, descriptorIndex := 76, attributes := #[] }, { accessFlags := 9, nameIndex := 88, descriptorIndex := 198, attributes := #[] }, { accessFlags := 9, nameIndex := 88, descriptorIndex := 201, attributes := #[] }] 1537 103 #[120] #[])
  fields := #[]
  methods := #[k15m0, k15m1, k15m2, k15m3]
  instanceTypes := #[]
  staticTypes := #[]
  resolved := Array.replicate 251 none
  statics := none }

def pool16 : Array CpInfo := pool [(1, .methodref 2 3), (0, .class_ 4), (0, .nameAndType 5 6), (0, u "java/lang/Object"), (0, u "<init>"), (0, u "()V"), (1, .class_ 10), (1, u "java/util/AbstractCollection"), (66, .class_ 78), (0, u "java/util/Collection")] 81

def k16c0 : Code := { maxStack := 1, maxLocals := 1, code := jdk_22_method_1_code, exceptionTable := #[], attributes := #[] }
def k16m0 : Method := { name := "<init>", desc := "()V", sig := { parameters := [], returnType := none }, accessFlags := 4, code := some k16c0 }
/-- java/util/AbstractCollection -/
def k16 : Class := { plain "java/util/AbstractCollection" (some 0) with
  accessFlags := 1057
  interfaces := #[13]
  cf := some (fileOf pool16 8 #[] #[{ accessFlags := 4, nameIndex := 5, descriptorIndex := 6, attributes := #[] }] 1057 2 #[77] #[])
  fields := #[]
  methods := #[k16m0]
  instanceTypes := #[]
  staticTypes := #[]
  resolved := Array.replicate 160 none
  statics := none }

def pool17 : Array CpInfo := pool [(1, .methodref 2 3), (0, .class_ 4), (0, .nameAndType 5 6), (0, u "java/util/AbstractCollection"), (0, u "<init>"), (0, u "()V"), (1, .class_ 10), (1, u "java/util/ImmutableCollections"), (2, .class_ 14), (0, u "java/util/ImmutableCollections$AbstractImmutableCollection")] 41

def k17c0 : Code := { maxStack := 1, maxLocals := 1, code := jdk_47_method_1_code, exceptionTable := #[], attributes := #[] }
def k17m0 : Method := { name := "<init>", desc := "()V", sig := { parameters := [], returnType := none }, accessFlags := 0, code := some k17c0 }
/-- java/util/ImmutableCollections$AbstractImmutableCollection -/
def k17 : Class := { plain "java/util/ImmutableCollections$AbstractImmutableCollection" (some 16) with
  accessFlags := 1056
  interfaces := #[]
  cf := some (fileOf pool17 13 #[.nestHost 8] #[{ accessFlags := 0, nameIndex := 5, descriptorIndex := 6, attributes := #[] }] 1056 2 #[] #[])
  fields := #[]
  methods := #[k17m0]
  instanceTypes := #[]
  staticTypes := #[]
  resolved := Array.replicate 56 none
  statics := none }

def pool18 : Array CpInfo := pool [(1, .class_ 2), (0, u "java/util/RandomAccess"), (0, .class_ 4), (0, u "java/lang/Object")] 2

/-- java/util/RandomAccess -/
def k18 : Class := { plain "java/util/RandomAccess" (some 0) with
  accessFlags := 1537
  interfaces := #[]
  cf := some (fileOf pool18 1 #[] #[] 1537 3 #[] #[])
  fields := #[]
  methods := #[]
  instanceTypes := #[]
  staticTypes := #[]
  resolved := Array.replicate 7 none
  statics := none }

def pool19 : Array CpInfo := pool [(1, .methodref 2 3), (0, .class_ 4), (0, .nameAndType 5 6), (0, u "java/util/ImmutableCollections$AbstractImmutableCollection"), (0, u "<init>"), (0, u "()V"), (1, .class_ 10), (1, u "java/util/ImmutableCollections"), (3, .class_ 16), (1, u "java/util/ImmutableCollections$AbstractImmutableList"), (60, .class_ 78), (0, u "java/util/List"), (45, .class_ 125), (0, u "java/util/RandomAccess")] 70

def k19c0 : Code := { maxStack := 1, maxLocals := 1, code := jdk_46_method_1_code, exceptionTable := #[], attributes := #[] }
def k19m0 : Method := { name := "<init>", desc := "()V", sig := { parameters := [], returnType := none }, accessFlags := 0, code := some k19c0 }
/-- java/util/ImmutableCollections$AbstractImmutableList -/
def k19 : Class := { plain "java/util/ImmutableCollections$AbstractImmutableList" (some 17) with
  accessFlags := 1056
  interfaces := #[15, 18]
  cf := some (fileOf pool19 14 #[.nestHost 8] #[{ accessFlags := 0, nameIndex := 5, descriptorIndex := 6, attributes := #[] }] 1056 2 #[77, 124] #[])
  fields := #[]
  methods := #[k19m0]
  instanceTypes := #[]
  staticTypes := #[]
  resolved := Array.replicate 196 none
  statics := none }

def pool20 : Array CpInfo := pool [(1, .methodref 2 3), (0, .class_ 4), (0, .nameAndType 5 6), (0, u "java/util/ImmutableCollections$AbstractImmutableList"), (0, u "<init>"), (0, u "()V"), (0, .methodref 8 9), (0, .class_ 10), (0, .nameAndType 11 12), (0, u "java/util/Objects"), (0, u "requireNonNull"), (0, u "(Ljava/lang/Object;)Ljava/lang/Object;"), (0, .fieldref 14 15), (0, .class_ 16), (0, .nameAndType 17 18), (0, u "java/util/ImmutableCollections$List12"), (0, u "e0"), (0, u "Ljava/lang/Object;"), (0, .fieldref 20 21), (0, .class_ 22), (0, .nameAndType 23 18), (0, u "java/util/ImmutableCollections"), (0, u "EMPTY"), (0, .fieldref 14 25), (0, .nameAndType 26 18), (0, u "e1"), (24, u "size"), (0, u "()I"), (17, .class_ 71), (0, u "java/io/Serializable"), (4, u "(Ljava/lang/Object;)V"), (8, u "(Ljava/lang/Object;Ljava/lang/Object;)V"), (4, u "get"), (0, u "(I)Ljava/lang/Object;")] 33

def k20c0 : Code := { maxStack := 2, maxLocals := 2, code := jdk_44_method_1_code, exceptionTable := #[], attributes := #[] }
def k20m0 : Method := { name := "<init>", desc := "(Ljava/lang/Object;)V", sig := { parameters := [(.object "java/lang/Object")], returnType := none }, accessFlags := 0, code := some k20c0 }
def k20c1 : Code := { maxStack := 2, maxLocals := 3, code := jdk_44_method_2_code, exceptionTable := #[], attributes := #[] }
def k20m1 : Method := { name := "<init>", desc := "(Ljava/lang/Object;Ljava/lang/Object;)V", sig := { parameters := [(.object "java/lang/Object"), (.object "java/lang/Object")], returnType := none }, accessFlags := 0, code := some k20c1 }
def k20c2 : Code := { maxStack := 2, maxLocals := 1, code := jdk_44_method_3_code, exceptionTable := #[], attributes := #[] }
def k20m2 : Method := { name := "size", desc := "()I", sig := { parameters := [], returnType := some .int }, accessFlags := 1, code := some k20c2 }
def k20c3 : Code := { maxStack := 2, maxLocals := 2, code := jdk_44_method_5_code, exceptionTable := #[], attributes := #[] }
def k20m3 : Method := { name := "get", desc := "(I)Ljava/lang/Object;", sig := { parameters := [.int], returnType := some (.object "java/lang/Object") }, accessFlags := 1, code := some k20c3 }
/-- java/util/ImmutableCollections$List12 -/
def k20 : Class := { plain "java/util/ImmutableCollections$List12" (some 19) with
  accessFlags := 48
  interfaces := #[2]
  cf := some (fileOf pool20 14 #[.nestHost 20] #[{ accessFlags := 0, nameIndex := 5, descriptorIndex := 76, attributes := #[] }, { accessFlags := 0, nameIndex := 5, descriptorIndex := 85, attributes := #[] }, { accessFlags := 1, nameIndex := 51, descriptorIndex := 52, attributes := #[] }, { accessFlags := 1, nameIndex := 90, descriptorIndex := 91, attributes := #[] }] 48 2 #[70] #[{ accessFlags := 18, nameIndex := 17, descriptorIndex := 18, attributes := #[] }, { accessFlags := 18, nameIndex := 26, descriptorIndex := 18, attributes := #[] }])
  fields := #[{ name := "e0", type := (.object "java/lang/Object"), accessFlags := 18, slot := 0, constantValue := 0 }, { name := "e1", type := (.object "java/lang/Object"), accessFlags := 18, slot := 1, constantValue := 0 }]
  methods := #[k20m0, k20m1, k20m2, k20m3]
  instanceTypes := #[(.object "java/lang/Object"), (.object "java/lang/Object")]
  staticTypes := #[]
  resolved := Array.replicate 125 none
  statics := none }

def pool21 : Array CpInfo := pool [(2, .class_ 4), (1, u "java/lang/Object"), (0, u "<init>"), (0, u "()V"), (3, .class_ 11), (0, u "java/util/ImmutableCollections$List12"), (0, .class_ 13), (0, u "java/util/ImmutableCollections$ListN"), (3, u "Z"), (29, .class_ 49), (1, u "java/util/ImmutableCollections"), (0, u "$assertionsDisabled"), (5, u "[Ljava/lang/Object;"), (5, u "EMPTY_LIST"), (0, u "Ljava/util/ImmutableCollections$ListN;"), (8, u "EMPTY_LIST_NULLS"), (22, u "SALT32L"), (0, u "J"), (2, u "REVERSE"), (6, u "archivedObjects"), (2, u "EMPTY"), (0, u "Ljava/lang/Object;"), (0, .class_ 112), (0, u "java/util/ImmutableCollections$SetN"), (5, u "EMPTY_SET"), (0, u "Ljava/util/ImmutableCollections$SetN;"), (0, .class_ 121), (0, u "java/util/ImmutableCollections$MapN"), (3, u "EMPTY_MAP"), (0, u "Ljava/util/ImmutableCollections$MapN;"), (4, u "EXPAND_FACTOR"), (0, u "I"), (36, .class_ 170), (0, u "java/util/ImmutableCollections$MapN$MapNIterator"), (0, .class_ 172), (0, u "java/util/ImmutableCollections$MapN$1"), (0, .class_ 174), (0, u "java/util/ImmutableCollections$Map1"), (0, .class_ 176), (0, u "java/util/ImmutableCollections$AbstractImmutableMap"), (0, .class_ 178), (0, u "java/util/ImmutableCollections$SetN$SetNIterator"), (0, .class_ 180), (0, u "java/util/ImmutableCollections$Set12"), (0, .class_ 182), (0, u "java/util/ImmutableCollections$Set12$1"), (0, .class_ 184), (0, u "java/util/ImmutableCollections$AbstractImmutableSet"), (0, .class_ 186), (0, u "java/util/ImmutableCollections$SubList"), (0, .class_ 188), (0, u "java/util/ImmutableCollections$ListItr"), (0, .class_ 190), (0, u "java/util/ImmutableCollections$AbstractImmutableList"), (0, .class_ 192), (0, u "java/util/ImmutableCollections$AbstractImmutableCollection"), (0, .class_ 194), (0, u "java/util/ImmutableCollections$Access"), (0, .class_ 196), (0, u "java/util/ImmutableCollections$Access$1")] 16

def k21m0 : Method := { name := "<init>", desc := "()V", sig := { parameters := [], returnType := none }, accessFlags := 2, code := none }
/-- java/util/ImmutableCollections -/
def k21 : Class := { plain "java/util/ImmutableCollections" (some 0) with
  accessFlags := 32
  interfaces := #[]
  cf := some (fileOf pool21 47 #[.nestMembers #[120, 169, 171, 173, 175, 111, 177, 179, 181, 183, 12, 10, 185, 187, 189, 191, 193, 195]] #[{ accessFlags := 2, nameIndex := 5, descriptorIndex := 6, attributes := #[] }] 32 2 #[] #[{ accessFlags := 26, nameIndex := 95, descriptorIndex := 96, attributes := #[] }, { accessFlags := 26, nameIndex := 99, descriptorIndex := 17, attributes := #[] }, { accessFlags := 10, nameIndex := 106, descriptorIndex := 56, attributes := #[] }, { accessFlags := 26, nameIndex := 109, descriptorIndex := 110, attributes := #[] }, { accessFlags := 24, nameIndex := 62, descriptorIndex := 63, attributes := #[] }, { accessFlags := 24, nameIndex := 72, descriptorIndex := 63, attributes := #[] }, { accessFlags := 24, nameIndex := 118, descriptorIndex := 119, attributes := #[] }, { accessFlags := 24, nameIndex := 125, descriptorIndex := 126, attributes := #[] }, { accessFlags := 24, nameIndex := 131, descriptorIndex := 132, attributes := #[] }, { accessFlags := 4120, nameIndex := 50, descriptorIndex := 17, attributes := #[] }])
  fields := #[{ name := "SALT32L", type := .long, accessFlags := 26, slot := 0, constantValue := 0 }, { name := "REVERSE", type := .boolean, accessFlags := 26, slot := 1, constantValue := 0 }, { name := "archivedObjects", type := (.array (.object "java/lang/Object")), accessFlags := 10, slot := 2, constantValue := 0 }, { name := "EMPTY", type := (.object "java/lang/Object"), accessFlags := 26, slot := 3, constantValue := 0 }, { name := "EMPTY_LIST", type := (.object "java/util/ImmutableCollections$ListN"), accessFlags := 24, slot := 4, constantValue := 0 }, { name := "EMPTY_LIST_NULLS", type := (.object "java/util/ImmutableCollections$ListN"), accessFlags := 24, slot := 5, constantValue := 0 }, { name := "EMPTY_SET", type := (.object "java/util/ImmutableCollections$SetN"), accessFlags := 24, slot := 6, constantValue := 0 }, { name := "EMPTY_MAP", type := (.object "java/util/ImmutableCollections$MapN"), accessFlags := 24, slot := 7, constantValue := 0 }, { name := "EXPAND_FACTOR", type := .int, accessFlags := 24, slot := 8, constantValue := 0 }, { name := "$assertionsDisabled", type := .boolean, accessFlags := 4120, slot := 9, constantValue := 0 }]
  methods := #[k21m0]
  instanceTypes := #[]
  staticTypes := #[.long, .boolean, (.array (.object "java/lang/Object")), (.object "java/lang/Object"), (.object "java/util/ImmutableCollections$ListN"), (.object "java/util/ImmutableCollections$ListN"), (.object "java/util/ImmutableCollections$SetN"), (.object "java/util/ImmutableCollections$MapN"), .int, .boolean]
  resolved := Array.replicate 213 none
  statics := some 1 }

def pool22 : Array CpInfo := pool [(2, .class_ 4), (1, u "java/lang/Object"), (0, u "<init>"), (0, u "()V"), (17, .class_ 26), (1, u "jdk/internal/util/Preconditions"), (28, .class_ 56), (0, u "jdk/internal/util/Preconditions$4"), (57, .class_ 115), (0, u "jdk/internal/util/Preconditions$1"), (7, u "SIOOBE_FORMATTER"), (0, u "Ljava/util/function/BiFunction;"), (0, .class_ 126), (0, u "jdk/internal/util/Preconditions$2"), (3, u "AIOOBE_FORMATTER"), (0, .class_ 132), (0, u "jdk/internal/util/Preconditions$3"), (3, u "IOOBE_FORMATTER")] 57

def k22m0 : Method := { name := "<init>", desc := "()V", sig := { parameters := [], returnType := none }, accessFlags := 1, code := none }
/-- jdk/internal/util/Preconditions -/
def k22 : Class := { plain "jdk/internal/util/Preconditions" (some 0) with
  accessFlags := 33
  interfaces := #[]
  cf := some (fileOf pool22 24 #[.nestMembers #[55, 131, 125, 114]] #[{ accessFlags := 1, nameIndex := 5, descriptorIndex := 6, attributes := #[] }] 33 2 #[] #[{ accessFlags := 25, nameIndex := 123, descriptorIndex := 124, attributes := #[] }, { accessFlags := 25, nameIndex := 130, descriptorIndex := 124, attributes := #[] }, { accessFlags := 25, nameIndex := 136, descriptorIndex := 124, attributes := #[] }])
  fields := #[{ name := "SIOOBE_FORMATTER", type := (.object "java/util/function/BiFunction"), accessFlags := 25, slot := 0, constantValue := 0 }, { name := "AIOOBE_FORMATTER", type := (.object "java/util/function/BiFunction"), accessFlags := 25, slot := 1, constantValue := 0 }, { name := "IOOBE_FORMATTER", type := (.object "java/util/function/BiFunction"), accessFlags := 25, slot := 2, constantValue := 0 }]
  methods := #[k22m0]
  instanceTypes := #[]
  staticTypes := #[(.object "java/util/function/BiFunction"), (.object "java/util/function/BiFunction"), (.object "java/util/function/BiFunction")]
  resolved := Array.replicate 194 none
  statics := some 2 }

def pool23 : Array CpInfo := pool [(9, u "<init>"), (6, .class_ 18), (1, u "java/lang/Object"), (0, u "()V"), (1, .class_ 23), (1, u "jdk/internal/util/ArraysSupport"), (0, u "LOG2_ARRAY_LONG_INDEX_SCALE"), (0, u "I"), (2, u "U"), (0, u "Ljdk/internal/misc/Unsafe;"), (8, u "BIG_ENDIAN"), (0, u "Z"), (8, u "LOG2_BYTE_BIT_SIZE"), (4, u "LOG2_ARRAY_INT_INDEX_SCALE"), (54, u "JLA"), (0, u "Ljdk/internal/access/JavaLangAccess;"), (11, u "LOG2_ARRAY_BOOLEAN_INDEX_SCALE"), (9, u "LOG2_ARRAY_BYTE_INDEX_SCALE"), (5, u "LOG2_ARRAY_CHAR_INDEX_SCALE"), (5, u "LOG2_ARRAY_SHORT_INDEX_SCALE"), (18, u "LOG2_ARRAY_FLOAT_INDEX_SCALE"), (24, u "LOG2_ARRAY_DOUBLE_INDEX_SCALE"), (89, u "T_BOOLEAN"), (2, u "T_CHAR"), (1, u "T_FLOAT"), (1, u "T_DOUBLE"), (1, u "T_BYTE"), (1, u "T_SHORT"), (1, u "T_INT"), (1, u "T_LONG"), (1, u "SOFT_MAX_ARRAY_LENGTH")] 83

def k23m0 : Method := { name := "<init>", desc := "()V", sig := { parameters := [], returnType := none }, accessFlags := 2, code := none }
/-- jdk/internal/util/ArraysSupport -/
def k23 : Class := { plain "jdk/internal/util/ArraysSupport" (some 0) with
  accessFlags := 33
  interfaces := #[]
  cf := some (fileOf pool23 21 #[] #[{ accessFlags := 2, nameIndex := 9, descriptorIndex := 19, attributes := #[] }] 33 16 #[] #[{ accessFlags := 24, nameIndex := 28, descriptorIndex := 29, attributes := #[] }, { accessFlags := 26, nameIndex := 38, descriptorIndex := 39, attributes := #[] }, { accessFlags := 25, nameIndex := 121, descriptorIndex := 25, attributes := #[] }, { accessFlags := 25, nameIndex := 131, descriptorIndex := 25, attributes := #[] }, { accessFlags := 25, nameIndex := 137, descriptorIndex := 25, attributes := #[] }, { accessFlags := 25, nameIndex := 143, descriptorIndex := 25, attributes := #[] }, { accessFlags := 25, nameIndex := 53, descriptorIndex := 25, attributes := #[] }, { accessFlags := 25, nameIndex := 24, descriptorIndex := 25, attributes := #[] }, { accessFlags := 25, nameIndex := 162, descriptorIndex := 25, attributes := #[] }, { accessFlags := 25, nameIndex := 187, descriptorIndex := 25, attributes := #[] }, { accessFlags := 26, nameIndex := 48, descriptorIndex := 25, attributes := #[] }, { accessFlags := 25, nameIndex := 277, descriptorIndex := 25, attributes := #[] }, { accessFlags := 25, nameIndex := 280, descriptorIndex := 25, attributes := #[] }, { accessFlags := 25, nameIndex := 282, descriptorIndex := 25, attributes := #[] }, { accessFlags := 25, nameIndex := 284, descriptorIndex := 25, attributes := #[] }, { accessFlags := 25, nameIndex := 286, descriptorIndex := 25, attributes := #[] }, { accessFlags := 25, nameIndex := 288, descriptorIndex := 25, attributes := #[] }, { accessFlags := 25, nameIndex := 290, descriptorIndex := 25, attributes := #[] }, { accessFlags := 25, nameIndex := 292, descriptorIndex := 25, attributes := #[] }, { accessFlags := 26, nameIndex := 108, descriptorIndex := 109, attributes := #[] }, { accessFlags := 25, nameIndex := 294, descriptorIndex := 25, attributes := #[] }])
  fields := #[{ name := "U", type := (.object "jdk/internal/misc/Unsafe"), accessFlags := 24, slot := 0, constantValue := 0 }, { name := "BIG_ENDIAN", type := .boolean, accessFlags := 26, slot := 1, constantValue := 0 }, { name := "LOG2_ARRAY_BOOLEAN_INDEX_SCALE", type := .int, accessFlags := 25, slot := 2, constantValue := 0 }, { name := "LOG2_ARRAY_BYTE_INDEX_SCALE", type := .int, accessFlags := 25, slot := 3, constantValue := 0 }, { name := "LOG2_ARRAY_CHAR_INDEX_SCALE", type := .int, accessFlags := 25, slot := 4, constantValue := 0 }, { name := "LOG2_ARRAY_SHORT_INDEX_SCALE", type := .int, accessFlags := 25, slot := 5, constantValue := 0 }, { name := "LOG2_ARRAY_INT_INDEX_SCALE", type := .int, accessFlags := 25, slot := 6, constantValue := 0 }, { name := "LOG2_ARRAY_LONG_INDEX_SCALE", type := .int, accessFlags := 25, slot := 7, constantValue := 0 }, { name := "LOG2_ARRAY_FLOAT_INDEX_SCALE", type := .int, accessFlags := 25, slot := 8, constantValue := 0 }, { name := "LOG2_ARRAY_DOUBLE_INDEX_SCALE", type := .int, accessFlags := 25, slot := 9, constantValue := 0 }, { name := "LOG2_BYTE_BIT_SIZE", type := .int, accessFlags := 26, slot := 10, constantValue := 0 }, { name := "T_BOOLEAN", type := .int, accessFlags := 25, slot := 11, constantValue := 0 }, { name := "T_CHAR", type := .int, accessFlags := 25, slot := 12, constantValue := 0 }, { name := "T_FLOAT", type := .int, accessFlags := 25, slot := 13, constantValue := 0 }, { name := "T_DOUBLE", type := .int, accessFlags := 25, slot := 14, constantValue := 0 }, { name := "T_BYTE", type := .int, accessFlags := 25, slot := 15, constantValue := 0 }, { name := "T_SHORT", type := .int, accessFlags := 25, slot := 16, constantValue := 0 }, { name := "T_INT", type := .int, accessFlags := 25, slot := 17, constantValue := 0 }, { name := "T_LONG", type := .int, accessFlags := 25, slot := 18, constantValue := 0 }, { name := "JLA", type := (.object "jdk/internal/access/JavaLangAccess"), accessFlags := 26, slot := 19, constantValue := 0 }, { name := "SOFT_MAX_ARRAY_LENGTH", type := .int, accessFlags := 25, slot := 20, constantValue := 0 }]
  methods := #[k23m0]
  instanceTypes := #[]
  staticTypes := #[(.object "jdk/internal/misc/Unsafe"), .boolean, .int, .int, .int, .int, .int, .int, .int, .int, .int, .int, .int, .int, .int, .int, .int, .int, .int, (.object "jdk/internal/access/JavaLangAccess"), .int]
  resolved := Array.replicate 378 none
  statics := none }

def pool24 : Array CpInfo := pool [(2, .class_ 4), (1, u "java/util/ImmutableCollections$AbstractImmutableList"), (3, .class_ 10), (1, u "java/util/ImmutableCollections$ListN"), (0, u "elements"), (0, u "[Ljava/lang/Object;"), (2, u "allowNulls"), (0, u "Z"), (42, .class_ 60), (0, u "java/io/Serializable"), (53, .class_ 115), (0, u "java/util/ImmutableCollections")] 3

/-- java/util/ImmutableCollections$ListN -/
def k24 : Class := { plain "java/util/ImmutableCollections$ListN" (some 19) with
  accessFlags := 48
  interfaces := #[2]
  cf := some (fileOf pool24 8 #[.nestHost 114] #[] 48 2 #[59] #[{ accessFlags := 18, nameIndex := 11, descriptorIndex := 12, attributes := #[] }, { accessFlags := 18, nameIndex := 15, descriptorIndex := 16, attributes := #[] }])
  fields := #[{ name := "elements", type := (.array (.object "java/lang/Object")), accessFlags := 18, slot := 0, constantValue := 0 }, { name := "allowNulls", type := .boolean, accessFlags := 18, slot := 1, constantValue := 0 }]
  methods := #[]
  instanceTypes := #[(.array (.object "java/lang/Object")), .boolean]
  staticTypes := #[]
  resolved := Array.replicate 119 none
  statics := none }

def pool25 : Array CpInfo := pool [(1, u "java/lang/Cloneable"), (0, .class_ 1), (0, u "java/lang/Object"), (0, .class_ 3)] 3

/-- java/lang/Cloneable -/
def k25 : Class := { plain "java/lang/Cloneable" (some 0) with
  accessFlags := 1537
  interfaces := #[]
  cf := some (fileOf pool25 2 #[] #[] 1537 4 #[] #[])
  fields := #[]
  methods := #[]
  instanceTypes := #[]
  staticTypes := #[]
  resolved := Array.replicate 8 none
  statics := none }

/-- the primitive byte -/
def k26 : Class := { plain "byte" none with kind := .primitive 'B', accessFlags := 0x411 }
/-- [B -/
def k27 : Class := { plain "[B" (some 0) with kind := .array 26 .byte, interfaces := #[25, 2], accessFlags := 1041 }

/-- the primitive int -/
def k28 : Class := { plain "int" none with kind := .primitive 'I', accessFlags := 0x411 }
/-- [I -/
def k29 : Class := { plain "[I" (some 0) with kind := .array 28 .int, interfaces := #[25, 2], accessFlags := 1041 }

/-- [Ljava/lang/Object; -/
def k30 : Class := { plain "[Ljava/lang/Object;" (some 0) with kind := .array 0 (.object "java/lang/Object"), interfaces := #[25, 2], accessFlags := 1041 }

def heap : Heap := #[{ cls := 7, slots := #[.long 0, .int 1, .null, .int 0, .null, .int 0, .int 0], vm := .statics 7 },
  { cls := 21, slots := #[.long 0, .int 0, .null, .ref 4, .ref 5, .null, .null, .null, .int 0, .int 1], vm := .statics 21 },
  { cls := 22, slots := #[.null, .null, .null], vm := .statics 22 },
  { cls := 30, slots := #[], vm := .none },
  { cls := 0, slots := #[], vm := .none },
  { cls := 24, slots := #[.ref 3, .int 0], vm := .none }]
def classes : Array Class := #[k0, k1, k2, k3, k4, k5, k6, k7, k8, k9, k10, k11, k12, k13, k14, k15, k16, k17, k18, k19, k20, k21, k22, k23, k24, k25, k26, k27, k28, k29, k30]
def interned : List (Array UInt16 × Addr) := []
def slotsUsed : Nat := 22
def theMethod : MethodId := ⟨1, 1⟩
def args0 : Array Value := #[.int 5, .int 6, .int 7]
def aboutOver (below : List Frame) : State where
  vm := { classes := classes, interned := interned.toArray }
  heap := heap
  slotsUsed := slotsUsed
  threads := #[{ frames := .invoking theMethod args0 :: below }]
def below0 : List Frame := [.native { method := ⟨0, 0⟩, args := #[] }]
def about1 : State := aboutOver below0
def p0 : Program := .bare "" "" ""
def e0 : Env := launch0.env 0 0 0
theorem w_frames : about1.frames = Frame.invoking theMethod args0 :: below0 := rfl
set_option maxRecDepth 65536 in
theorem w_args : argsFit about1.vm theMethod args0 = true := by decide +kernel
set_option maxRecDepth 65536 in
theorem w_heap : heapFits about1 = true := by decide +kernel
set_option maxRecDepth 65536 in
theorem w_runnable : about1.curStatus? = some .runnable := by decide +kernel
set_option maxRecDepth 65536 in
theorem w_alone : about1.alone = true := by decide +kernel
set_option maxRecDepth 65536 in
theorem w_named : about1.methodNamed? x = some theMethod := by decide +kernel
set_option maxRecDepth 65536 in
theorem w_hears : about1.hears theMethod below0 = true := by decide +kernel
set_option maxRecDepth 65536 in
theorem w_ripe : about1.ripe theMethod args0 below0 = true := by decide +kernel
theorem w_running : about1.status = .running := rfl
set_option maxRecDepth 65536 in
theorem w_room : about1.hasRoom e0.platform room_1 = true :=
  launch0.hasRoom_least _ room_1 (by decide +kernel) (by decide +kernel) (by decide +kernel) (by decide +kernel) (by decide +kernel) (by decide +kernel)
theorem allAtoms_all (ts : List Jvm.Cond) (a : Array Jvm.Value) (st : Jvm.State) : (allAtoms ts).before a st = ts.all (fun c => c.before a st) := by
  induction ts with
  | nil => rfl
  | cons c t ih =>
    show (Jvm.Cond.and c (allAtoms t)).before a st = _
    rw [Jvm.Cond.before_and, ih, List.all_cons]
def words1 : List Jvm.Cond := Jvm.Cond.code x code maxLocals ret :: tables_1
/-- a 'code' word, met by the world's own term for the bytes: nothing is compared byte by byte -/
theorem code_word {y : MethodName} {bytes : ByteArray} {mx : Nat} {rt : Option FieldType} {a : Array Value} {s : State} {m : MethodId} {meth : Method} {c : Code} (h1 : s.methodNamed? y = some m) (h2 : s.vm.method? m = some meth) (h3 : meth.code = some c) (h4 : c.code = bytes)
    (h5 : (c.maxLocals == mx && c.exceptionTable.isEmpty && decide (c.maxStack ≤ mostOperands) && decide (meth.sig.returnType = rt) && !meth.locks && decide (parseMethodDescriptor y.desc = some meth.sig)) = true) : (Jvm.Cond.code y bytes mx rt).before a s = true := by
  simp only [Bool.and_eq_true, beq_iff_eq, Bool.not_eq_true', decide_eq_true_eq] at h5
  obtain ⟨⟨⟨⟨⟨g1, g2⟩, g3⟩, g4⟩, g5⟩, g6⟩ := h5
  simp [Cond.before, Cond.holds, Cond.value, h1, h2, h3, h4, g1, g2, g3, g4, g5, g6]
def isCode : Jvm.Cond → Bool
  | .code _ _ _ _ => true
  | _ => false
theorem all_split {L : List Jvm.Cond} {P : Jvm.Cond → Bool} (h1 : L.all (fun c => isCode c || P c) = true) (h2 : ∀ c ∈ L.filter isCode, P c = true) : L.all P = true := by
  refine List.all_eq_true.mpr fun c hc => ?_
  have h := List.all_eq_true.mp h1 c hc
  rcases Bool.eq_false_or_eq_true (isCode c) with hi | hi
  · exact h2 c (List.mem_filter.mpr ⟨hc, hi⟩)
  · simpa [hi] using h
set_option maxRecDepth 65536 in
theorem w_c0 : (Jvm.Cond.code x code maxLocals ret).before args0 about1 = true := code_word (m := ⟨1, 1⟩) (meth := k1m1) (c := k1c1) (by decide +kernel) rfl rfl rfl (by decide +kernel)
set_option maxRecDepth 65536 in
theorem w_c1 : (Jvm.Cond.code ({ cls := "com/example/beanloft/beanloft/naming/GlobalNameFormsPinLaw", name := "ch", desc := "(I)C" } : Jvm.MethodName) method_3_code (2 : Nat) (Option.some Jvm.ClassFile.FieldType.char)).before args0 about1 = true := code_word (m := ⟨1, 2⟩) (meth := k1m2) (c := k1c2) (by decide +kernel) rfl rfl rfl (by decide +kernel)
set_option maxRecDepth 65536 in
theorem w_c2 : (Jvm.Cond.code ({ cls := "java/lang/String", name := "valueOf", desc := "(C)Ljava/lang/String;" } : Jvm.MethodName) jdk_42_method_139_code (1 : Nat) (Option.some (Jvm.ClassFile.FieldType.object "java/lang/String"))).before args0 about1 = true := code_word (m := ⟨7, 6⟩) (meth := k7m6) (c := k7c6) (by decide +kernel) rfl rfl rfl (by decide +kernel)
set_option maxRecDepth 65536 in
theorem w_c3 : (Jvm.Cond.code ({ cls := "java/lang/StringLatin1", name := "canEncode", desc := "(C)Z" } : Jvm.MethodName) jdk_43_method_3_code (1 : Nat) (Option.some Jvm.ClassFile.FieldType.boolean)).before args0 about1 = true := code_word (m := ⟨8, 1⟩) (meth := k8m1) (c := k8c1) (by decide +kernel) rfl rfl rfl (by decide +kernel)
set_option maxRecDepth 65536 in
theorem w_c4 : (Jvm.Cond.code ({ cls := "java/lang/StringLatin1", name := "toBytes", desc := "(C)[B" } : Jvm.MethodName) jdk_43_method_46_code (1 : Nat) (Option.some (Jvm.ClassFile.FieldType.array Jvm.ClassFile.FieldType.byte))).before args0 about1 = true := code_word (m := ⟨8, 4⟩) (meth := k8m4) (c := k8c4) (by decide +kernel) rfl rfl rfl (by decide +kernel)
set_option maxRecDepth 65536 in
theorem w_c5 : (Jvm.Cond.code ({ cls := "java/lang/String", name := "<init>", desc := "([BB)V" } : Jvm.MethodName) jdk_42_method_151_code (3 : Nat) (Option.none : Option Jvm.ClassFile.FieldType)).before args0 about1 = true := code_word (m := ⟨7, 7⟩) (meth := k7m7) (c := k7c7) (by decide +kernel) rfl rfl rfl (by decide +kernel)
set_option maxRecDepth 65536 in
theorem w_c6 : (Jvm.Cond.code ({ cls := "java/lang/Object", name := "<init>", desc := "()V" } : Jvm.MethodName) object_method_1_code (1 : Nat) (Option.none : Option Jvm.ClassFile.FieldType)).before args0 about1 = true := code_word (m := ⟨0, 0⟩) (meth := k0m0) (c := k0c0) (by decide +kernel) rfl rfl rfl (by decide +kernel)
set_option maxRecDepth 65536 in
theorem w_c7 : (Jvm.Cond.code ({ cls := "com/example/beanloft/beanloft/naming/GlobalName", name := "<init>", desc := "(Ljava/lang/String;Ljava/lang/String;Ljava/lang/String;Ljava/lang/String;)V" } : Jvm.MethodName) prog_9_method_1_code (5 : Nat) (Option.none : Option Jvm.ClassFile.FieldType)).before args0 about1 = true := code_word (m := ⟨10, 0⟩) (meth := k10m0) (c := k10c0) (by decide +kernel) rfl rfl rfl (by decide +kernel)
set_option maxRecDepth 65536 in
theorem w_c8 : (Jvm.Cond.code ({ cls := "java/lang/Record", name := "<init>", desc := "()V" } : Jvm.MethodName) jdk_30_method_1_code (1 : Nat) (Option.none : Option Jvm.ClassFile.FieldType)).before args0 about1 = true := code_word (m := ⟨9, 0⟩) (meth := k9m0) (c := k9c0) (by decide +kernel) rfl rfl rfl (by decide +kernel)
set_option maxRecDepth 65536 in
theorem w_c9 : (Jvm.Cond.code ({ cls := "java/util/Objects", name := "requireNonNull", desc := "(Ljava/lang/Object;Ljava/lang/String;)Ljava/lang/Object;" } : Jvm.MethodName) jdk_31_method_11_code (2 : Nat) (Option.some (Jvm.ClassFile.FieldType.object "java/lang/Object"))).before args0 about1 = true := code_word (m := ⟨11, 2⟩) (meth := k11m2) (c := k11c2) (by decide +kernel) rfl rfl rfl (by decide +kernel)
set_option maxRecDepth 65536 in
theorem w_c10 : (Jvm.Cond.code ({ cls := "com/example/beanloft/beanloft/naming/GlobalName", name := "checkSegment", desc := "(Ljava/lang/String;Ljava/lang/String;Ljava/lang/String;Ljava/lang/String;)V" } : Jvm.MethodName) prog_9_method_9_code (4 : Nat) (Option.none : Option Jvm.ClassFile.FieldType)).before args0 about1 = true := code_word (m := ⟨10, 2⟩) (meth := k10m2) (c := k10c2) (by decide +kernel) rfl rfl rfl (by decide +kernel)
set_option maxRecDepth 65536 in
theorem w_c11 : (Jvm.Cond.code ({ cls := "java/lang/String", name := "isEmpty", desc := "()Z" } : Jvm.MethodName) jdk_42_method_55_code (1 : Nat) (Option.some Jvm.ClassFile.FieldType.boolean)).before args0 about1 = true := code_word (m := ⟨7, 1⟩) (meth := k7m1) (c := k7c1) (by decide +kernel) rfl rfl rfl (by decide +kernel)
set_option maxRecDepth 65536 in
theorem w_c12 : (Jvm.Cond.code ({ cls := "java/lang/String", name := "contains", desc := "(Ljava/lang/CharSequence;)Z" } : Jvm.MethodName) jdk_42_method_97_code (2 : Nat) (Option.some Jvm.ClassFile.FieldType.boolean)).before args0 about1 = true := code_word (m := ⟨7, 4⟩) (meth := k7m4) (c := k7c4) (by decide +kernel) rfl rfl rfl (by decide +kernel)
set_option maxRecDepth 65536 in
theorem w_c13 : (Jvm.Cond.code ({ cls := "java/lang/String", name := "toString", desc := "()Ljava/lang/String;" } : Jvm.MethodName) jdk_42_method_126_code (1 : Nat) (Option.some (Jvm.ClassFile.FieldType.object "java/lang/String"))).before args0 about1 = true := code_word (m := ⟨7, 5⟩) (meth := k7m5) (c := k7c5) (by decide +kernel) rfl rfl rfl (by decide +kernel)
set_option maxRecDepth 65536 in
theorem w_c14 : (Jvm.Cond.code ({ cls := "java/lang/String", name := "indexOf", desc := "(Ljava/lang/String;)I" } : Jvm.MethodName) jdk_42_method_84_code (3 : Nat) (Option.some Jvm.ClassFile.FieldType.int)).before args0 about1 = true := code_word (m := ⟨7, 3⟩) (meth := k7m3) (c := k7c3) (by decide +kernel) rfl rfl rfl (by decide +kernel)
set_option maxRecDepth 65536 in
theorem w_c15 : (Jvm.Cond.code ({ cls := "java/lang/String", name := "coder", desc := "()B" } : Jvm.MethodName) jdk_42_method_152_code (1 : Nat) (Option.some Jvm.ClassFile.FieldType.byte)).before args0 about1 = true := code_word (m := ⟨7, 8⟩) (meth := k7m8) (c := k7c8) (by decide +kernel) rfl rfl rfl (by decide +kernel)
set_option maxRecDepth 65536 in
theorem w_c16 : (Jvm.Cond.code ({ cls := "java/lang/String", name := "isLatin1", desc := "()Z" } : Jvm.MethodName) jdk_42_method_154_code (1 : Nat) (Option.some Jvm.ClassFile.FieldType.boolean)).before args0 about1 = true := code_word (m := ⟨7, 9⟩) (meth := k7m9) (c := k7c9) (by decide +kernel) rfl rfl rfl (by decide +kernel)
set_option maxRecDepth 65536 in
theorem w_c17 : (Jvm.Cond.code ({ cls := "java/lang/StringLatin1", name := "indexOf", desc := "([B[B)I" } : Jvm.MethodName) jdk_43_method_24_code (2 : Nat) (Option.some Jvm.ClassFile.FieldType.int)).before args0 about1 = true := code_word (m := ⟨8, 2⟩) (meth := k8m2) (c := k8c2) (by decide +kernel) rfl rfl rfl (by decide +kernel)
set_option maxRecDepth 65536 in
theorem w_c18 : (Jvm.Cond.code ({ cls := "java/lang/StringLatin1", name := "indexOf", desc := "([BI[BII)I" } : Jvm.MethodName) jdk_43_method_25_code (11 : Nat) (Option.some Jvm.ClassFile.FieldType.int)).before args0 about1 = true := code_word (m := ⟨8, 3⟩) (meth := k8m3) (c := k8c3) (by decide +kernel) rfl rfl rfl (by decide +kernel)
set_option maxRecDepth 65536 in
theorem w_c19 : (Jvm.Cond.code ({ cls := "com/example/beanloft/beanloft/naming/GlobalName", name := "forms", desc := "(I)Ljava/util/List;" } : Jvm.MethodName) prog_9_method_4_code (3 : Nat) (Option.some (Jvm.ClassFile.FieldType.object "java/util/List"))).before args0 about1 = true := code_word (m := ⟨10, 1⟩) (meth := k10m1) (c := k10c1) (by decide +kernel) rfl rfl rfl (by decide +kernel)
set_option maxRecDepth 65536 in
theorem w_c20 : (Jvm.Cond.code ({ cls := "java/util/List", name := "of", desc := "(Ljava/lang/Object;)Ljava/util/List;" } : Jvm.MethodName) jdk_40_method_37_code (1 : Nat) (Option.some (Jvm.ClassFile.FieldType.object "java/util/List"))).before args0 about1 = true := code_word (m := ⟨15, 2⟩) (meth := k15m2) (c := k15c2) (by decide +kernel) rfl rfl rfl (by decide +kernel)
set_option maxRecDepth 65536 in
theorem w_c21 : (Jvm.Cond.code ({ cls := "java/util/ImmutableCollections$List12", name := "<init>", desc := "(Ljava/lang/Object;)V" } : Jvm.MethodName) jdk_44_method_1_code (2 : Nat) (Option.none : Option Jvm.ClassFile.FieldType)).before args0 about1 = true := code_word (m := ⟨20, 0⟩) (meth := k20m0) (c := k20c0) (by decide +kernel) rfl rfl rfl (by decide +kernel)
set_option maxRecDepth 65536 in
theorem w_c22 : (Jvm.Cond.code ({ cls := "java/util/ImmutableCollections$AbstractImmutableList", name := "<init>", desc := "()V" } : Jvm.MethodName) jdk_46_method_1_code (1 : Nat) (Option.none : Option Jvm.ClassFile.FieldType)).before args0 about1 = true := code_word (m := ⟨19, 0⟩) (meth := k19m0) (c := k19c0) (by decide +kernel) rfl rfl rfl (by decide +kernel)
set_option maxRecDepth 65536 in
theorem w_c23 : (Jvm.Cond.code ({ cls := "java/util/ImmutableCollections$AbstractImmutableCollection", name := "<init>", desc := "()V" } : Jvm.MethodName) jdk_47_method_1_code (1 : Nat) (Option.none : Option Jvm.ClassFile.FieldType)).before args0 about1 = true := code_word (m := ⟨17, 0⟩) (meth := k17m0) (c := k17c0) (by decide +kernel) rfl rfl rfl (by decide +kernel)
set_option maxRecDepth 65536 in
theorem w_c24 : (Jvm.Cond.code ({ cls := "java/util/AbstractCollection", name := "<init>", desc := "()V" } : Jvm.MethodName) jdk_22_method_1_code (1 : Nat) (Option.none : Option Jvm.ClassFile.FieldType)).before args0 about1 = true := code_word (m := ⟨16, 0⟩) (meth := k16m0) (c := k16c0) (by decide +kernel) rfl rfl rfl (by decide +kernel)
set_option maxRecDepth 65536 in
theorem w_c25 : (Jvm.Cond.code ({ cls := "java/util/Objects", name := "requireNonNull", desc := "(Ljava/lang/Object;)Ljava/lang/Object;" } : Jvm.MethodName) jdk_31_method_10_code (1 : Nat) (Option.some (Jvm.ClassFile.FieldType.object "java/lang/Object"))).before args0 about1 = true := code_word (m := ⟨11, 1⟩) (meth := k11m1) (c := k11c1) (by decide +kernel) rfl rfl rfl (by decide +kernel)
set_option maxRecDepth 65536 in
theorem w_c26 : (Jvm.Cond.code ({ cls := "java/util/ImmutableCollections$List12", name := "size", desc := "()I" } : Jvm.MethodName) jdk_44_method_3_code (1 : Nat) (Option.some Jvm.ClassFile.FieldType.int)).before args0 about1 = true := code_word (m := ⟨20, 2⟩) (meth := k20m2) (c := k20c2) (by decide +kernel) rfl rfl rfl (by decide +kernel)
set_option maxRecDepth 65536 in
theorem w_c27 : (Jvm.Cond.code ({ cls := "java/util/ImmutableCollections$List12", name := "get", desc := "(I)Ljava/lang/Object;" } : Jvm.MethodName) jdk_44_method_5_code (2 : Nat) (Option.some (Jvm.ClassFile.FieldType.object "java/lang/Object"))).before args0 about1 = true := code_word (m := ⟨20, 3⟩) (meth := k20m3) (c := k20c3) (by decide +kernel) rfl rfl rfl (by decide +kernel)
set_option maxRecDepth 65536 in
theorem w_c28 : (Jvm.Cond.code ({ cls := "com/example/beanloft/beanloft/naming/GlobalNameFormsPinLaw", name := "same", desc := "(Lcom/example/beanloft/beanloft/naming/GlobalName;Ljava/lang/String;Ljava/lang/String;Ljava/lang/String;Ljava/lang/String;)Z" } : Jvm.MethodName) method_5_code (5 : Nat) (Option.some Jvm.ClassFile.FieldType.boolean)).before args0 about1 = true := code_word (m := ⟨1, 4⟩) (meth := k1m4) (c := k1c4) (by decide +kernel) rfl rfl rfl (by decide +kernel)
set_option maxRecDepth 65536 in
theorem w_c29 : (Jvm.Cond.code ({ cls := "com/example/beanloft/beanloft/naming/GlobalName", name := "appName", desc := "()Ljava/lang/String;" } : Jvm.MethodName) prog_9_method_12_code (1 : Nat) (Option.some (Jvm.ClassFile.FieldType.object "java/lang/String"))).before args0 about1 = true := code_word (m := ⟨10, 3⟩) (meth := k10m3) (c := k10c3) (by decide +kernel) rfl rfl rfl (by decide +kernel)
set_option maxRecDepth 65536 in
theorem w_c30 : (Jvm.Cond.code ({ cls := "com/example/beanloft/beanloft/naming/GlobalNameFormsPinLaw", name := "eq", desc := "(Ljava/lang/String;Ljava/lang/String;)Z" } : Jvm.MethodName) method_4_code (2 : Nat) (Option.some Jvm.ClassFile.FieldType.boolean)).before args0 about1 = true := code_word (m := ⟨1, 3⟩) (meth := k1m3) (c := k1c3) (by decide +kernel) rfl rfl rfl (by decide +kernel)
set_option maxRecDepth 65536 in
theorem w_c31 : (Jvm.Cond.code ({ cls := "com/example/beanloft/beanloft/naming/GlobalName", name := "moduleName", desc := "()Ljava/lang/String;" } : Jvm.MethodName) prog_9_method_13_code (1 : Nat) (Option.some (Jvm.ClassFile.FieldType.object "java/lang/String"))).before args0 about1 = true := code_word (m := ⟨10, 4⟩) (meth := k10m4) (c := k10c4) (by decide +kernel) rfl rfl rfl (by decide +kernel)
set_option maxRecDepth 65536 in
theorem w_c32 : (Jvm.Cond.code ({ cls := "java/lang/String", name := "equals", desc := "(Ljava/lang/Object;)Z" } : Jvm.MethodName) jdk_42_method_66_code (3 : Nat) (Option.some Jvm.ClassFile.FieldType.boolean)).before args0 about1 = true := code_word (m := ⟨7, 2⟩) (meth := k7m2) (c := k7c2) (by decide +kernel) rfl rfl rfl (by decide +kernel)
set_option maxRecDepth 65536 in
theorem w_c33 : (Jvm.Cond.code ({ cls := "com/example/beanloft/beanloft/naming/GlobalName", name := "beanName", desc := "()Ljava/lang/String;" } : Jvm.MethodName) prog_9_method_14_code (1 : Nat) (Option.some (Jvm.ClassFile.FieldType.object "java/lang/String"))).before args0 about1 = true := code_word (m := ⟨10, 5⟩) (meth := k10m5) (c := k10c5) (by decide +kernel) rfl rfl rfl (by decide +kernel)
set_option maxRecDepth 65536 in
theorem w_c34 : (Jvm.Cond.code ({ cls := "com/example/beanloft/beanloft/naming/GlobalName", name := "viewName", desc := "()Ljava/lang/String;" } : Jvm.MethodName) prog_9_method_15_code (1 : Nat) (Option.some (Jvm.ClassFile.FieldType.object "java/lang/String"))).before args0 about1 = true := code_word (m := ⟨10, 6⟩) (meth := k10m6) (c := k10c6) (by decide +kernel) rfl rfl rfl (by decide +kernel)
set_option maxRecDepth 65536 in
theorem w_c35 : (Jvm.Cond.code ({ cls := "java/util/List", name := "of", desc := "(Ljava/lang/Object;Ljava/lang/Object;)Ljava/util/List;" } : Jvm.MethodName) jdk_40_method_38_code (2 : Nat) (Option.some (Jvm.ClassFile.FieldType.object "java/util/List"))).before args0 about1 = true := code_word (m := ⟨15, 3⟩) (meth := k15m3) (c := k15c3) (by decide +kernel) rfl rfl rfl (by decide +kernel)
set_option maxRecDepth 65536 in
theorem w_c36 : (Jvm.Cond.code ({ cls := "java/util/ImmutableCollections$List12", name := "<init>", desc := "(Ljava/lang/Object;Ljava/lang/Object;)V" } : Jvm.MethodName) jdk_44_method_2_code (3 : Nat) (Option.none : Option Jvm.ClassFile.FieldType)).before args0 about1 = true := code_word (m := ⟨20, 1⟩) (meth := k20m1) (c := k20c1) (by decide +kernel) rfl rfl rfl (by decide +kernel)
def codes1 : List Jvm.Cond := [Jvm.Cond.code x code maxLocals ret, Jvm.Cond.code ({ cls := "com/example/beanloft/beanloft/naming/GlobalNameFormsPinLaw", name := "ch", desc := "(I)C" } : Jvm.MethodName) method_3_code (2 : Nat) (Option.some Jvm.ClassFile.FieldType.char), Jvm.Cond.code ({ cls := "java/lang/String", name := "valueOf", desc := "(C)Ljava/lang/String;" } : Jvm.MethodName) jdk_42_method_139_code (1 : Nat) (Option.some (Jvm.ClassFile.FieldType.object "java/lang/String")), Jvm.Cond.code ({ cls := "java/lang/StringLatin1", name := "canEncode", desc := "(C)Z" } : Jvm.MethodName) jdk_43_method_3_code (1 : Nat) (Option.some Jvm.ClassFile.FieldType.boolean), Jvm.Cond.code ({ cls := "java/lang/StringLatin1", name := "toBytes", desc := "(C)[B" } : Jvm.MethodName) jdk_43_method_46_code (1 : Nat) (Option.some (Jvm.ClassFile.FieldType.array Jvm.ClassFile.FieldType.byte)), Jvm.Cond.code ({ cls := "java/lang/String", name := "<init>", desc := "([BB)V" } : Jvm.MethodName) jdk_42_method_151_code (3 : Nat) (Option.none : Option Jvm.ClassFile.FieldType), Jvm.Cond.code ({ cls := "java/lang/Object", name := "<init>", desc := "()V" } : Jvm.MethodName) object_method_1_code (1 : Nat) (Option.none : Option Jvm.ClassFile.FieldType), Jvm.Cond.code ({ cls := "com/example/beanloft/beanloft/naming/GlobalName", name := "<init>", desc := "(Ljava/lang/String;Ljava/lang/String;Ljava/lang/String;Ljava/lang/String;)V" } : Jvm.MethodName) prog_9_method_1_code (5 : Nat) (Option.none : Option Jvm.ClassFile.FieldType), Jvm.Cond.code ({ cls := "java/lang/Record", name := "<init>", desc := "()V" } : Jvm.MethodName) jdk_30_method_1_code (1 : Nat) (Option.none : Option Jvm.ClassFile.FieldType), Jvm.Cond.code ({ cls := "java/util/Objects", name := "requireNonNull", desc := "(Ljava/lang/Object;Ljava/lang/String;)Ljava/lang/Object;" } : Jvm.MethodName) jdk_31_method_11_code (2 : Nat) (Option.some (Jvm.ClassFile.FieldType.object "java/lang/Object")), Jvm.Cond.code ({ cls := "com/example/beanloft/beanloft/naming/GlobalName", name := "checkSegment", desc := "(Ljava/lang/String;Ljava/lang/String;Ljava/lang/String;Ljava/lang/String;)V" } : Jvm.MethodName) prog_9_method_9_code (4 : Nat) (Option.none : Option Jvm.ClassFile.FieldType), Jvm.Cond.code ({ cls := "java/lang/String", name := "isEmpty", desc := "()Z" } : Jvm.MethodName) jdk_42_method_55_code (1 : Nat) (Option.some Jvm.ClassFile.FieldType.boolean), Jvm.Cond.code ({ cls := "java/lang/String", name := "contains", desc := "(Ljava/lang/CharSequence;)Z" } : Jvm.MethodName) jdk_42_method_97_code (2 : Nat) (Option.some Jvm.ClassFile.FieldType.boolean), Jvm.Cond.code ({ cls := "java/lang/String", name := "toString", desc := "()Ljava/lang/String;" } : Jvm.MethodName) jdk_42_method_126_code (1 : Nat) (Option.some (Jvm.ClassFile.FieldType.object "java/lang/String")), Jvm.Cond.code ({ cls := "java/lang/String", name := "indexOf", desc := "(Ljava/lang/String;)I" } : Jvm.MethodName) jdk_42_method_84_code (3 : Nat) (Option.some Jvm.ClassFile.FieldType.int), Jvm.Cond.code ({ cls := "java/lang/String", name := "coder", desc := "()B" } : Jvm.MethodName) jdk_42_method_152_code (1 : Nat) (Option.some Jvm.ClassFile.FieldType.byte), Jvm.Cond.code ({ cls := "java/lang/String", name := "isLatin1", desc := "()Z" } : Jvm.MethodName) jdk_42_method_154_code (1 : Nat) (Option.some Jvm.ClassFile.FieldType.boolean), Jvm.Cond.code ({ cls := "java/lang/StringLatin1", name := "indexOf", desc := "([B[B)I" } : Jvm.MethodName) jdk_43_method_24_code (2 : Nat) (Option.some Jvm.ClassFile.FieldType.int), Jvm.Cond.code ({ cls := "java/lang/StringLatin1", name := "indexOf", desc := "([BI[BII)I" } : Jvm.MethodName) jdk_43_method_25_code (11 : Nat) (Option.some Jvm.ClassFile.FieldType.int), Jvm.Cond.code ({ cls := "com/example/beanloft/beanloft/naming/GlobalName", name := "forms", desc := "(I)Ljava/util/List;" } : Jvm.MethodName) prog_9_method_4_code (3 : Nat) (Option.some (Jvm.ClassFile.FieldType.object "java/util/List")), Jvm.Cond.code ({ cls := "java/util/List", name := "of", desc := "(Ljava/lang/Object;)Ljava/util/List;" } : Jvm.MethodName) jdk_40_method_37_code (1 : Nat) (Option.some (Jvm.ClassFile.FieldType.object "java/util/List")), Jvm.Cond.code ({ cls := "java/util/ImmutableCollections$List12", name := "<init>", desc := "(Ljava/lang/Object;)V" } : Jvm.MethodName) jdk_44_method_1_code (2 : Nat) (Option.none : Option Jvm.ClassFile.FieldType), Jvm.Cond.code ({ cls := "java/util/ImmutableCollections$AbstractImmutableList", name := "<init>", desc := "()V" } : Jvm.MethodName) jdk_46_method_1_code (1 : Nat) (Option.none : Option Jvm.ClassFile.FieldType), Jvm.Cond.code ({ cls := "java/util/ImmutableCollections$AbstractImmutableCollection", name := "<init>", desc := "()V" } : Jvm.MethodName) jdk_47_method_1_code (1 : Nat) (Option.none : Option Jvm.ClassFile.FieldType), Jvm.Cond.code ({ cls := "java/util/AbstractCollection", name := "<init>", desc := "()V" } : Jvm.MethodName) jdk_22_method_1_code (1 : Nat) (Option.none : Option Jvm.ClassFile.FieldType), Jvm.Cond.code ({ cls := "java/util/Objects", name := "requireNonNull", desc := "(Ljava/lang/Object;)Ljava/lang/Object;" } : Jvm.MethodName) jdk_31_method_10_code (1 : Nat) (Option.some (Jvm.ClassFile.FieldType.object "java/lang/Object")), Jvm.Cond.code ({ cls := "java/util/ImmutableCollections$List12", name := "size", desc := "()I" } : Jvm.MethodName) jdk_44_method_3_code (1 : Nat) (Option.some Jvm.ClassFile.FieldType.int), Jvm.Cond.code ({ cls := "java/util/ImmutableCollections$List12", name := "get", desc := "(I)Ljava/lang/Object;" } : Jvm.MethodName) jdk_44_method_5_code (2 : Nat) (Option.some (Jvm.ClassFile.FieldType.object "java/lang/Object")), Jvm.Cond.code ({ cls := "com/example/beanloft/beanloft/naming/GlobalNameFormsPinLaw", name := "same", desc := "(Lcom/example/beanloft/beanloft/naming/GlobalName;Ljava/lang/String;Ljava/lang/String;Ljava/lang/String;Ljava/lang/String;)Z" } : Jvm.MethodName) method_5_code (5 : Nat) (Option.some Jvm.ClassFile.FieldType.boolean), Jvm.Cond.code ({ cls := "com/example/beanloft/beanloft/naming/GlobalName", name := "appName", desc := "()Ljava/lang/String;" } : Jvm.MethodName) prog_9_method_12_code (1 : Nat) (Option.some (Jvm.ClassFile.FieldType.object "java/lang/String")), Jvm.Cond.code ({ cls := "com/example/beanloft/beanloft/naming/GlobalNameFormsPinLaw", name := "eq", desc := "(Ljava/lang/String;Ljava/lang/String;)Z" } : Jvm.MethodName) method_4_code (2 : Nat) (Option.some Jvm.ClassFile.FieldType.boolean), Jvm.Cond.code ({ cls := "com/example/beanloft/beanloft/naming/GlobalName", name := "moduleName", desc := "()Ljava/lang/String;" } : Jvm.MethodName) prog_9_method_13_code (1 : Nat) (Option.some (Jvm.ClassFile.FieldType.object "java/lang/String")), Jvm.Cond.code ({ cls := "java/lang/String", name := "equals", desc := "(Ljava/lang/Object;)Z" } : Jvm.MethodName) jdk_42_method_66_code (3 : Nat) (Option.some Jvm.ClassFile.FieldType.boolean), Jvm.Cond.code ({ cls := "com/example/beanloft/beanloft/naming/GlobalName", name := "beanName", desc := "()Ljava/lang/String;" } : Jvm.MethodName) prog_9_method_14_code (1 : Nat) (Option.some (Jvm.ClassFile.FieldType.object "java/lang/String")), Jvm.Cond.code ({ cls := "com/example/beanloft/beanloft/naming/GlobalName", name := "viewName", desc := "()Ljava/lang/String;" } : Jvm.MethodName) prog_9_method_15_code (1 : Nat) (Option.some (Jvm.ClassFile.FieldType.object "java/lang/String")), Jvm.Cond.code ({ cls := "java/util/List", name := "of", desc := "(Ljava/lang/Object;Ljava/lang/Object;)Ljava/util/List;" } : Jvm.MethodName) jdk_40_method_38_code (2 : Nat) (Option.some (Jvm.ClassFile.FieldType.object "java/util/List")), Jvm.Cond.code ({ cls := "java/util/ImmutableCollections$List12", name := "<init>", desc := "(Ljava/lang/Object;Ljava/lang/Object;)V" } : Jvm.MethodName) jdk_44_method_2_code (3 : Nat) (Option.none : Option Jvm.ClassFile.FieldType)]
set_option maxRecDepth 65536 in
theorem codes_eq : words1.filter isCode = codes1 := rfl
theorem w_codes : ∀ c ∈ words1.filter isCode, c.before args0 about1 = true := by
  rw [codes_eq]
  intro c hc
  simp only [codes1, List.mem_cons, List.not_mem_nil, or_false] at hc
  rcases hc with rfl | rfl | rfl | rfl | rfl | rfl | rfl | rfl | rfl | rfl | rfl | rfl | rfl | rfl | rfl | rfl | rfl | rfl | rfl | rfl | rfl | rfl | rfl | rfl | rfl | rfl | rfl | rfl | rfl | rfl | rfl | rfl | rfl | rfl | rfl | rfl | rfl
  · exact w_c0
  · exact w_c1
  · exact w_c2
  · exact w_c3
  · exact w_c4
  · exact w_c5
  · exact w_c6
  · exact w_c7
  · exact w_c8
  · exact w_c9
  · exact w_c10
  · exact w_c11
  · exact w_c12
  · exact w_c13
  · exact w_c14
  · exact w_c15
  · exact w_c16
  · exact w_c17
  · exact w_c18
  · exact w_c19
  · exact w_c20
  · exact w_c21
  · exact w_c22
  · exact w_c23
  · exact w_c24
  · exact w_c25
  · exact w_c26
  · exact w_c27
  · exact w_c28
  · exact w_c29
  · exact w_c30
  · exact w_c31
  · exact w_c32
  · exact w_c33
  · exact w_c34
  · exact w_c35
  · exact w_c36
set_option maxRecDepth 65536 in
theorem w_t1 : (words1.take 24).all (fun c => isCode c || c.before args0 about1) = true := by decide +kernel
set_option maxRecDepth 65536 in
theorem w_t2 : ((words1.drop 24).take 24).all (fun c => isCode c || c.before args0 about1) = true := by decide +kernel
set_option maxRecDepth 65536 in
theorem w_t3 : (((words1.drop 24).drop 24).take 24).all (fun c => isCode c || c.before args0 about1) = true := by decide +kernel
set_option maxRecDepth 65536 in
theorem w_t4 : ((((words1.drop 24).drop 24).drop 24).take 24).all (fun c => isCode c || c.before args0 about1) = true := by decide +kernel
set_option maxRecDepth 65536 in
theorem w_t5 : (((((words1.drop 24).drop 24).drop 24).drop 24).take 24).all (fun c => isCode c || c.before args0 about1) = true := by decide +kernel
set_option maxRecDepth 65536 in
theorem w_t6 : ((((((words1.drop 24).drop 24).drop 24).drop 24).drop 24).take 24).all (fun c => isCode c || c.before args0 about1) = true := by decide +kernel
set_option maxRecDepth 65536 in
theorem w_t7 : (((((((words1.drop 24).drop 24).drop 24).drop 24).drop 24).drop 24).take 24).all (fun c => isCode c || c.before args0 about1) = true := by decide +kernel
set_option maxRecDepth 65536 in
theorem w_t8 : ((((((((words1.drop 24).drop 24).drop 24).drop 24).drop 24).drop 24).drop 24).take 24).all (fun c => isCode c || c.before args0 about1) = true := by decide +kernel
set_option maxRecDepth 65536 in
theorem w_t9 : ((((((((words1.drop 24).drop 24).drop 24).drop 24).drop 24).drop 24).drop 24).drop 24).all (fun c => isCode c || c.before args0 about1) = true := by decide +kernel
theorem w_tables : (allAtoms (Jvm.Cond.code x code maxLocals ret :: tables_1)).before args0 about1 = true := by
  rw [allAtoms_all]
  show words1.all (fun c => c.before args0 about1) = true
  refine all_split ?_ w_codes
  rw [← List.take_append_drop 24 words1, List.all_append, w_t1, ← List.take_append_drop 24 (words1.drop 24), List.all_append, w_t2, ← List.take_append_drop 24 ((words1.drop 24).drop 24), List.all_append, w_t3, ← List.take_append_drop 24 (((words1.drop 24).drop 24).drop 24), List.all_append, w_t4, ← List.take_append_drop 24 ((((words1.drop 24).drop 24).drop 24).drop 24), List.all_append, w_t5, ← List.take_append_drop 24 (((((words1.drop 24).drop 24).drop 24).drop 24).drop 24), List.all_append, w_t6, ← List.take_append_drop 24 ((((((words1.drop 24).drop 24).drop 24).drop 24).drop 24).drop 24), List.all_append, w_t7, ← List.take_append_drop 24 (((((((words1.drop 24).drop 24).drop 24).drop 24).drop 24).drop 24).drop 24), List.all_append, w_t8, w_t9]
  rfl
set_option maxRecDepth 65536 in
theorem w_rest : rest_1_c.before args0 about1 = true := by decide +kernel
set_option maxRecDepth 65536 in
theorem w_case : (Jvm.Cond.and given_1 narrow_1).before args0 about1 = true := by decide +kernel
set_option maxRecDepth 65536 in
theorem w_consts : constsHeld consts_1 about1 := Jvm.Lit.constsHeldB_iff.mp (by decide +kernel)
theorem w_applies : (headSpec (Jvm.Cond.code x code maxLocals ret :: tables_1) room_1).applies x e0.platform about1 = true :=
  (Spec.applies_iff w_frames).mpr ⟨w_running, w_runnable, w_alone, w_named, w_hears, w_ripe, w_room, w_tables⟩
theorem atStart : AtStart classFile x code maxLocals ret World_1 tables_1 room_1 Calls_1 rest_1 Pre_1 launch0 p0 e0 about1 theMethod args0 below0 :=
  ⟨lists_1, trivial, launch0.admits_env _ _ _, launch0.least_env, fairChoices_fair.cas, fairChoices_fair.clock, w_frames, w_args, w_heap, w_applies, ⟨w_consts, trivial⟩, w_rest, w_case⟩
end start1
theorem witness_1 : WitnessClaimed_1 := ⟨start1.p0, start1.e0, start1.about1, start1.theMethod, start1.args0, start1.below0, start1.atStart⟩
end Jvm.Pilot.@@N@@
