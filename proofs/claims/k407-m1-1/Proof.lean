import JvmDerived
import JvmDerived.Pilot.@@N@@Statement
import JvmDerived.Pilot.@@N@@Code
set_option linter.unusedVariables false
set_option linter.unusedSimpArgs false
set_option maxRecDepth 65536
set_option maxHeartbeats 40000000
namespace Jvm.RoadKit
open Sem ClassFile Op Lib Jvm.Stand Jvm.Free Jvm.LawKit
section New
variable {p : Program} {l : Launch} {e : Env} {R : Room} {s : State} {m : MethodId} {args : Array Value} {below : List Frame} {meth : Method} {c : Code} {T : State} {locs : List Loc} {cells slots : Nat}
theorem retI (X : Stand p l e R s m args below meth c T locs cells slots) (hx : p.tables.exec = Jvm.exec) {pc : Nat} {Ls : Array Slot} {z : Int32} {rest : List Value} (hret : meth.sig.returnType = some .int) (hd : decode c.code pc = .ok (.ireturn, 1)) {fs : List Frame}
    (hl : ∀ (f : JFrame) (acts : List Action), f.method = m → f.locked = none → f.entered = [] → (doReturn e (T.setTop f) acts (some (.int z))).1 = T.setFrames fs) : Steps p.tables e below (T.setTop (mkF m pc Ls (.int z :: rest))) (T.setFrames fs) := by
  have hm' : T.vm.method? m = some meth := X.method'
  have hn : narrow .int (.int z) = .int z := rfl
  show Steps p.tables e below (T.setTop { method := m, pc := pc, locals := Ls, stack := _ :: rest, locked := none }) _
  jvm_step X.here [X.here.top, hx, hd, hm', hret, hn]
  first | (intro acts; rw [hl _ acts rfl rfl rfl]) | rw [hl _ _ rfl rfl rfl]
  exact Steps.refl _
end New
end Jvm.RoadKit
namespace Jvm.Pilot.@@N@@
open Jvm Jvm.ClassFile Sem Op Lib Jvm.Free Jvm.Stand Jvm.LawKit Jvm.RoadKit Bundle Jvm.Pilot.@@N@@.Jvm.D
theorem own_h {a0 : Array Value} {Z : State} (hw : ∀ d ∈ tables_1, d.before a0 Z = true) (i : Nat) {d : Jvm.Cond} (h : tables_1[i]? = some d) : d.before a0 Z = true := hw d (List.mem_of_getElem? h)
theorem own_nm2 {x a b : Addr} (h1 : x ≠ a) (h2 : x ≠ b) : x ∉ [a, b] := by simp [h1, h2]
theorem own_nm1 {x a : Addr} (h1 : x ≠ a) : x ∉ [a] := by simp [h1]
abbrev own_W (a0 : Array Value) (Z : State) : Prop := ∀ d ∈ tables_1, d.before a0 Z = true
abbrev own_i (x : Int32) : Slot := .val (.int x)
abbrev own_r (x : Addr) : Slot := .val (.ref x)
abbrev own_G (p : Program) (e : Env) (below : List Frame) (T s₁ : State) (F E : JFrame) : Prop := ∀ t, Steps p.tables e below (T.setTop F) t → Steps p.tables e below (s₁.setTop E) t
abbrev own_M (l : Launch) (Z : State) (h0 : Heap) (ws : List Jvm.Cond) (y : MethodName) (b : ByteArray) (k : Nat) (r : Option FieldType) (R : Room) (av : Array Value) (Q : Option Value → Heap → List Loc → Prop) : Prop := MetFree l y (head1 (Jvm.Cond.code y b k r :: ws) R) (fun a U => a = av ∧ Z.Warmed39 U.vm ∧ U.heap = h0) (fun _ _ _ _ _ => True) (fun _ U o U' => ∃ v L, o = .returned v ∧ Q v U'.heap L ∧ FrameEnd U o U' L R.cells R.slots)
abbrev own_y1 : MethodName := ⟨"java/util/ArrayList", "add", "(Ljava/lang/Object;)Z"⟩
abbrev own_y2 : MethodName := ⟨"java/util/List", "get", "(I)Ljava/lang/Object;"⟩
abbrev own_y3 : MethodName := ⟨"java/util/ArrayList", "<init>", "()V"⟩
abbrev own_y4 : MethodName := ⟨"java/util/ImmutableCollections$List12", "get", "(I)Ljava/lang/Object;"⟩
abbrev own_y5 : MethodName := ⟨"java/util/Objects", "requireNonNull", "(Ljava/lang/Object;)Ljava/lang/Object;"⟩
abbrev own_y6 : MethodName := ⟨"java/util/ImmutableCollections$ListN", "get", "(I)Ljava/lang/Object;"⟩
abbrev own_y7 : MethodName := ⟨"java/util/ArrayList", "isEmpty", "()Z"⟩
abbrev own_y8 : MethodName := ⟨"java/util/ArrayList", "add", "(Ljava/lang/Object;[Ljava/lang/Object;I)V"⟩
abbrev own_y9 : MethodName := ⟨"java/util/List", "of", "([Ljava/lang/Object;)Ljava/util/List;"⟩
abbrev own_y10 : MethodName := ⟨"com/example/tributary/tributary/merge/TreeContainsPinLaw", "node", "(Ljava/util/ArrayList;)Lcom/example/tributary/tributary/merge/Tree;"⟩
abbrev own_y11 : MethodName := ⟨"com/example/tributary/tributary/merge/Tree", "index", "(Lcom/example/tributary/tributary/merge/Tree;)Ljava/util/List;"⟩
abbrev own_y12 : MethodName := ⟨"java/util/ArrayList", "size", "()I"⟩
abbrev own_y13 : MethodName := ⟨"jdk/internal/util/Preconditions", "checkIndex", "(IILjava/util/function/BiFunction;)I"⟩
abbrev own_y14 : MethodName := ⟨"com/example/tributary/tributary/merge/Tree", "mix", "(JJ)J"⟩
abbrev own_y15 : MethodName := ⟨"java/lang/String", "length", "()I"⟩
abbrev own_y16 : MethodName := ⟨"com/example/tributary/tributary/merge/Tree", "contains", "(Lcom/example/tributary/tributary/merge/Tree;)Z"⟩
abbrev own_y17 : MethodName := ⟨"java/lang/Math", "max", "(II)I"⟩
abbrev own_y18 : MethodName := ⟨"java/util/ImmutableCollections$AbstractImmutableList", "<init>", "()V"⟩
abbrev own_y19 : MethodName := ⟨"java/util/ImmutableCollections$List12", "size", "()I"⟩
abbrev own_y20 : MethodName := ⟨"java/util/List", "copyOf", "(Ljava/util/Collection;)Ljava/util/List;"⟩
abbrev own_y21 : MethodName := ⟨"com/example/tributary/tributary/merge/Tree", "<init>", "(Ljava/lang/String;Ljava/lang/String;Lcom/example/tributary/tributary/merge/Symbol;Ljava/lang/String;Ljava/lang/String;Ljava/util/List;Ljava/util/List;ZZLcom/example/tributary/tributary/merge/Code;IILjava/util/List;J)V"⟩
abbrev own_y22 : MethodName := ⟨"java/util/List", "size", "()I"⟩
abbrev own_y23 : MethodName := ⟨"java/util/AbstractCollection", "<init>", "()V"⟩
abbrev own_y24 : MethodName := ⟨"java/util/AbstractList", "<init>", "()V"⟩
abbrev own_y25 : MethodName := ⟨"java/util/ArrayList", "remove", "(I)Ljava/lang/Object;"⟩
abbrev own_y26 : MethodName := ⟨"java/util/ArrayList$Itr", "hasNext", "()Z"⟩
abbrev own_y27 : MethodName := ⟨"java/util/ArrayList$Itr", "checkForComodification", "()V"⟩
abbrev own_y28 : MethodName := ⟨"java/util/ImmutableCollections$ListN", "size", "()I"⟩
abbrev own_y29 : MethodName := ⟨"java/lang/Math", "min", "(II)I"⟩
abbrev own_y30 : MethodName := ⟨"java/lang/String", "coder", "()B"⟩
abbrev own_y31 : MethodName := ⟨"java/lang/String", "isLatin1", "()Z"⟩
abbrev own_y32 : MethodName := ⟨"java/lang/String", "charAt", "(I)C"⟩
abbrev own_y33 : MethodName := ⟨"com/example/tributary/tributary/merge/TreeContainsPinLaw", "anc", "(II[I)Z"⟩
abbrev own_y34 : MethodName := ⟨"java/util/ArrayList", "<init>", "(I)V"⟩
abbrev own_y35 : MethodName := ⟨"java/util/ArrayList", "grow", "(I)[Ljava/lang/Object;"⟩
abbrev own_y36 : MethodName := ⟨"java/util/ArrayList", "grow", "()[Ljava/lang/Object;"⟩
abbrev own_y37 : MethodName := ⟨"java/util/Objects", "checkIndex", "(II)I"⟩
abbrev own_y38 : MethodName := ⟨"java/util/ArrayList", "fastRemove", "([Ljava/lang/Object;I)V"⟩
abbrev own_y39 : MethodName := ⟨"java/util/ArrayList$Itr", "<init>", "(Ljava/util/ArrayList;)V"⟩
abbrev own_y40 : MethodName := ⟨"java/util/ArrayList", "iterator", "()Ljava/util/Iterator;"⟩
abbrev own_y41 : MethodName := ⟨"java/util/ArrayList$Itr", "next", "()Ljava/lang/Object;"⟩
abbrev own_y42 : MethodName := ⟨"java/util/ImmutableCollections$AbstractImmutableCollection", "<init>", "()V"⟩
abbrev own_y43 : MethodName := ⟨"java/util/ImmutableCollections$List12", "<init>", "(Ljava/lang/Object;)V"⟩
abbrev own_y44 : MethodName := ⟨"java/util/ImmutableCollections$List12", "<init>", "(Ljava/lang/Object;Ljava/lang/Object;)V"⟩
abbrev own_y45 : MethodName := ⟨"java/util/ImmutableCollections$ListN", "<init>", "([Ljava/lang/Object;Z)V"⟩
abbrev own_y46 : MethodName := ⟨"java/util/List", "of", "()Ljava/util/List;"⟩
abbrev own_y47 : MethodName := ⟨"java/util/Arrays", "copyOf", "([Ljava/lang/Object;ILjava/lang/Class;)[Ljava/lang/Object;"⟩
abbrev own_y48 : MethodName := ⟨"java/util/Arrays", "copyOf", "([Ljava/lang/Object;I)[Ljava/lang/Object;"⟩
abbrev own_y49 : MethodName := ⟨"java/util/ArrayList", "toArray", "()[Ljava/lang/Object;"⟩
abbrev own_y50 : MethodName := ⟨"java/util/ImmutableCollections", "listFromArray", "([Ljava/lang/Object;)Ljava/util/List;"⟩
abbrev own_y51 : MethodName := ⟨"java/util/ImmutableCollections", "listCopy", "(Ljava/util/Collection;)Ljava/util/List;"⟩
abbrev own_y52 : MethodName := ⟨"java/lang/String", "checkIndex", "(II)V"⟩
abbrev own_y53 : MethodName := ⟨"java/lang/StringLatin1", "charAt", "([BI)C"⟩
abbrev own_y54 : MethodName := ⟨"com/example/tributary/tributary/merge/Tree", "mix", "(JLjava/lang/String;)J"⟩
abbrev own_y55 : MethodName := ⟨"java/util/Iterator", "hasNext", "()Z"⟩
abbrev own_k1 := prog_45_method_1_code
abbrev own_k2 := prog_45_method_5_code
abbrev own_k3 := method_3_code
abbrev own_k4 := jdk_38_method_25_code
abbrev own_k5 := jdk_38_method_24_code
abbrev own_k6 := jdk_49_method_3_code
abbrev own_k7 := jdk_40_method_47_code
abbrev own_k8 := jdk_56_method_4_code
abbrev own_k9 := prog_45_method_2_code
abbrev own_k10 := jdk_38_method_39_code
abbrev own_k11 := method_2_code
abbrev own_k12 := prog_45_method_4_code
abbrev own_k13 := jdk_38_method_6_code
abbrev own_k14 := jdk_38_method_29_code
abbrev own_k15 := jdk_65_method_120_code
abbrev own_k16 := jdk_44_method_5_code
abbrev own_k17 := prog_45_method_26_code
abbrev own_k18 := jdk_56_method_3_code
abbrev own_k19 := jdk_41_method_11_code
abbrev own_k20 := jdk_49_method_1_code
abbrev own_k21 := jdk_44_method_3_code
abbrev own_k22 := jdk_44_method_2_code
abbrev own_k23 := jdk_43_method_2_code
abbrev own_k24 := jdk_38_method_1_code
abbrev own_k25 := jdk_49_method_2_code
abbrev own_k26 := jdk_44_method_1_code
abbrev own_k27 := jdk_45_method_1_code
abbrev own_k28 := jdk_42_method_154_code
abbrev own_k29 := jdk_42_method_56_code
abbrev own_k30 := jdk_29_method_65_code
abbrev own_k31 := jdk_38_method_9_code
abbrev own_k32 := jdk_38_method_7_code
abbrev own_k33 := jdk_49_method_6_code
abbrev own_k34 := jdk_29_method_69_code
abbrev own_k35 := jdk_42_method_54_code
abbrev own_k36 := jdk_39_method_1_code
abbrev own_k37 := jdk_38_method_2_code
abbrev own_k38 := jdk_65_method_119_code
abbrev own_k39 := jdk_38_method_16_code
abbrev own_k40 := jdk_42_method_155_code
abbrev own_k41 := jdk_42_method_152_code
def own_lay (Z : State) (a0 : Array Value) (C O n d : String) (t : FieldType) : Prop := Laid Z a0 C O n d ∧ parseFieldDescriptor d = some t
theorem own_sn {Z : State} {a0 : Array Value} {C O n d O1 n1 d1 : String} {t t1 : FieldType} (L : own_lay Z a0 C O n d t) (M : own_lay Z a0 C O1 n1 d1 t1) (hn : n ≠ n1) : Jvm.RoadKit.slotOf Z O n d ≠ Jvm.RoadKit.slotOf Z O1 n1 d1 := slot_ne L.1 M.1 hn L.2 M.2
theorem own_l26 {a0 : Array Value} {Z : State} (hw : own_W a0 Z) : own_lay Z a0 "java/util/ArrayList" "java/util/ArrayList" "elementData" "[Ljava/lang/Object;" (.array (.object "java/lang/Object")) := ⟨Or.inl (own_h hw 26 rfl), by decide⟩
theorem own_l23 {a0 : Array Value} {Z : State} (hw : own_W a0 Z) : own_lay Z a0 "java/util/ArrayList" "java/util/AbstractList" "modCount" "I" .int := ⟨Or.inl (own_h hw 23 rfl), by decide⟩
theorem own_l80 {a0 : Array Value} {Z : State} (hw : own_W a0 Z) : own_lay Z a0 "java/util/ArrayList" "java/util/ArrayList" "size" "I" .int := ⟨Or.inl (own_h hw 80 rfl), by decide⟩
theorem own_l165 {a0 : Array Value} {Z : State} (hw : own_W a0 Z) : own_lay Z a0 "java/util/ArrayList$Itr" "java/util/ArrayList$Itr" "lastRet" "I" .int := ⟨Or.inl (own_h hw 165 rfl), by decide⟩
theorem own_l162 {a0 : Array Value} {Z : State} (hw : own_W a0 Z) : own_lay Z a0 "java/util/ArrayList$Itr" "java/util/ArrayList$Itr" "this$0" "Ljava/util/ArrayList;" (.object "java/util/ArrayList") := ⟨Or.inr (own_h hw 162 rfl), by decide⟩
theorem own_l169 {a0 : Array Value} {Z : State} (hw : own_W a0 Z) : own_lay Z a0 "java/util/ArrayList$Itr" "java/util/ArrayList$Itr" "expectedModCount" "I" .int := ⟨Or.inl (own_h hw 169 rfl), by decide⟩
theorem own_l180 {a0 : Array Value} {Z : State} (hw : own_W a0 Z) : own_lay Z a0 "java/util/ArrayList$Itr" "java/util/ArrayList$Itr" "cursor" "I" .int := ⟨Or.inl (own_h hw 180 rfl), by decide⟩
theorem own_l376 {a0 : Array Value} {Z : State} (hw : own_W a0 Z) : own_lay Z a0 "java/util/ImmutableCollections$List12" "java/util/ImmutableCollections$List12" "e1" "Ljava/lang/Object;" (.object "java/lang/Object") := ⟨Or.inr (own_h hw 376 rfl), by decide⟩
theorem own_l373 {a0 : Array Value} {Z : State} (hw : own_W a0 Z) : own_lay Z a0 "java/util/ImmutableCollections$List12" "java/util/ImmutableCollections$List12" "e0" "Ljava/lang/Object;" (.object "java/lang/Object") := ⟨Or.inr (own_h hw 373 rfl), by decide⟩
theorem own_l280 {a0 : Array Value} {Z : State} (hw : own_W a0 Z) : own_lay Z a0 "java/util/ImmutableCollections$ListN" "java/util/ImmutableCollections$ListN" "allowNulls" "Z" .boolean := ⟨Or.inr (own_h hw 280 rfl), by decide⟩
theorem own_l278 {a0 : Array Value} {Z : State} (hw : own_W a0 Z) : own_lay Z a0 "java/util/ImmutableCollections$ListN" "java/util/ImmutableCollections$ListN" "elements" "[Ljava/lang/Object;" (.array (.object "java/lang/Object")) := ⟨Or.inr (own_h hw 278 rfl), by decide⟩
theorem own_l185 {a0 : Array Value} {Z : State} (hw : own_W a0 Z) : own_lay Z a0 "com/example/tributary/tributary/merge/Tree" "com/example/tributary/tributary/merge/Tree" "size" "I" .int := ⟨Or.inr (own_h hw 185 rfl), by decide⟩
theorem own_l183 {a0 : Array Value} {Z : State} (hw : own_W a0 Z) : own_lay Z a0 "com/example/tributary/tributary/merge/Tree" "com/example/tributary/tributary/merge/Tree" "hash" "J" .long := ⟨Or.inr (own_h hw 183 rfl), by decide⟩
theorem own_l187 {a0 : Array Value} {Z : State} (hw : own_W a0 Z) : own_lay Z a0 "com/example/tributary/tributary/merge/Tree" "com/example/tributary/tributary/merge/Tree" "height" "I" .int := ⟨Or.inr (own_h hw 187 rfl), by decide⟩
theorem own_l330 {a0 : Array Value} {Z : State} (hw : own_W a0 Z) : own_lay Z a0 "com/example/tributary/tributary/merge/Tree" "com/example/tributary/tributary/merge/Tree" "pre" "I" .int := ⟨Or.inl (own_h hw 330 rfl), by decide⟩
theorem own_l349 {a0 : Array Value} {Z : State} (hw : own_W a0 Z) : own_lay Z a0 "com/example/tributary/tributary/merge/Tree" "com/example/tributary/tributary/merge/Tree" "parent" "Lcom/example/tributary/tributary/merge/Tree;" (.object "com/example/tributary/tributary/merge/Tree") := ⟨Or.inl (own_h hw 349 rfl), by decide⟩
theorem own_l100 {a0 : Array Value} {Z : State} (hw : own_W a0 Z) : own_lay Z a0 "com/example/tributary/tributary/merge/Tree" "com/example/tributary/tributary/merge/Tree" "children" "Ljava/util/List;" (.object "java/util/List") := ⟨Or.inr (own_h hw 100 rfl), by decide⟩
theorem own_l49 {a0 : Array Value} {Z : State} (hw : own_W a0 Z) : own_lay Z a0 "com/example/tributary/tributary/merge/Tree" "com/example/tributary/tributary/merge/Tree" "key" "Ljava/lang/String;" (.object "java/lang/String") := ⟨Or.inr (own_h hw 49 rfl), by decide⟩
theorem own_l47 {a0 : Array Value} {Z : State} (hw : own_W a0 Z) : own_lay Z a0 "com/example/tributary/tributary/merge/Tree" "com/example/tributary/tributary/merge/Tree" "label" "Ljava/lang/String;" (.object "java/lang/String") := ⟨Or.inr (own_h hw 47 rfl), by decide⟩
theorem own_l51 {a0 : Array Value} {Z : State} (hw : own_W a0 Z) : own_lay Z a0 "com/example/tributary/tributary/merge/Tree" "com/example/tributary/tributary/merge/Tree" "defines" "Lcom/example/tributary/tributary/merge/Symbol;" (.object "com/example/tributary/tributary/merge/Symbol") := ⟨Or.inr (own_h hw 51 rfl), by decide⟩
theorem own_l53 {a0 : Array Value} {Z : State} (hw : own_W a0 Z) : own_lay Z a0 "com/example/tributary/tributary/merge/Tree" "com/example/tributary/tributary/merge/Tree" "declares" "Ljava/lang/String;" (.object "java/lang/String") := ⟨Or.inr (own_h hw 53 rfl), by decide⟩
theorem own_l55 {a0 : Array Value} {Z : State} (hw : own_W a0 Z) : own_lay Z a0 "com/example/tributary/tributary/merge/Tree" "com/example/tributary/tributary/merge/Tree" "name" "Ljava/lang/String;" (.object "java/lang/String") := ⟨Or.inr (own_h hw 55 rfl), by decide⟩
theorem own_l86 {a0 : Array Value} {Z : State} (hw : own_W a0 Z) : own_lay Z a0 "com/example/tributary/tributary/merge/Tree" "com/example/tributary/tributary/merge/Tree" "refers" "Ljava/util/List;" (.object "java/util/List") := ⟨Or.inr (own_h hw 86 rfl), by decide⟩
theorem own_l88 {a0 : Array Value} {Z : State} (hw : own_W a0 Z) : own_lay Z a0 "com/example/tributary/tributary/merge/Tree" "com/example/tributary/tributary/merge/Tree" "locals" "Ljava/util/List;" (.object "java/util/List") := ⟨Or.inr (own_h hw 88 rfl), by decide⟩
theorem own_l90 {a0 : Array Value} {Z : State} (hw : own_W a0 Z) : own_lay Z a0 "com/example/tributary/tributary/merge/Tree" "com/example/tributary/tributary/merge/Tree" "element" "Z" .boolean := ⟨Or.inr (own_h hw 90 rfl), by decide⟩
theorem own_l92 {a0 : Array Value} {Z : State} (hw : own_W a0 Z) : own_lay Z a0 "com/example/tributary/tributary/merge/Tree" "com/example/tributary/tributary/merge/Tree" "catchesChecked" "Z" .boolean := ⟨Or.inr (own_h hw 92 rfl), by decide⟩
theorem own_l94 {a0 : Array Value} {Z : State} (hw : own_W a0 Z) : own_lay Z a0 "com/example/tributary/tributary/merge/Tree" "com/example/tributary/tributary/merge/Tree" "code" "Lcom/example/tributary/tributary/merge/Code;" (.object "com/example/tributary/tributary/merge/Code") := ⟨Or.inr (own_h hw 94 rfl), by decide⟩
theorem own_l96 {a0 : Array Value} {Z : State} (hw : own_W a0 Z) : own_lay Z a0 "com/example/tributary/tributary/merge/Tree" "com/example/tributary/tributary/merge/Tree" "from" "I" .int := ⟨Or.inr (own_h hw 96 rfl), by decide⟩
theorem own_l98 {a0 : Array Value} {Z : State} (hw : own_W a0 Z) : own_lay Z a0 "com/example/tributary/tributary/merge/Tree" "com/example/tributary/tributary/merge/Tree" "to" "I" .int := ⟨Or.inr (own_h hw 98 rfl), by decide⟩
theorem own_irem (x y : Int32) : x - (x / y) * y = x % y := by
  apply Int32.toInt_inj.mp
  have a := (x % y).toInt_lt; have b := (x % y).le_toInt
  rw [Int32.toInt_mod] at a b ⊢
  rw [Int32.toInt_sub, Int32.toInt_mul, Int32.toInt_div, Int.bmod_mul_bmod, Int.sub_bmod_bmod, Int.mul_comm, ← Int.tmod_def]
  exact Int.bmod_eq_of_le (by omega) (by omega)
theorem own_ns_exa {Z : State} {h : Heap} {a : Addr} {C : String} (F : Exa Z h a C) : ∀ c : Cell, h[a]? = some c → c.vm.isStatics = false := fun c hc => by
  obtain ⟨cell, k, h1, -, -, h4, -⟩ := F
  cases h1.symm.trans hc; exact h4
theorem own_sta_keep {Z : State} {h h' : Heap} {C n d : String} {v : Value} {ws : List Addr} (F : Sta Z h C n d v) (K : Keep h h' ws) (q : ∀ x ∈ ws, ∀ c : Cell, h[x]? = some c → c.vm.isStatics = false) : Sta Z h' C n d v := by
  obtain ⟨cf, i, k, f, st, cell, h1, h2, h3, h4, h5, h6, h7⟩ := F
  refine ⟨cf, i, k, f, st, cell, h1, h2, h3, h4, K.2.1 st cell h5 (fun hm => ?_), h6, h7⟩
  rw [q st hm cell h5] at h6; cases h6
theorem own_selp {s : State} {args : Array Value} {C : String} {z y : MethodName} (hs : (Jvm.Cond.selects C z z).before args s = true) (hzy : z.cls = y.cls) (hp : s.PrivateAt y) (hi : (Jvm.Cond.instanceMethod y).before args s = true) (hy : y.cls ≠ "java/lang/invoke/MethodHandle" ∧ y.cls ≠ "java/lang/invoke/VarHandle") : (Jvm.Cond.selects y.cls y y).before args s = true := by
  obtain ⟨c2, r2, m2, q1, q2, q3, q4, kP, hkP, hkPi⟩ := Cond.selects_spec hs
  have hc : s.vm.findClass y.cls = some m2.cls := by rw [← hzy]; exact findClass_of_methodNamed q3
  exact Stand.selects_self_of_private hc hkP hkPi hp hi hy
theorem own_ns_arv {Z : State} {h : Heap} {a : Addr} {k : ClassId} {ty : FieldType} {z : Int32} {vs : List Value} {d : Value} (F : Arv Z h a k ty z vs d) : ∀ c : Cell, h[a]? = some c → c.vm.isStatics = false := F.nostat
def own_max (x y : Int32) : Int32 := if x < y then y else x
def own_em (n : Int32) : Int32 := if n = 0 then 1 else 0
theorem dmax_0 : decode own_k30 0 = .ok (.iload_n 0, 1) := by decide +kernel
theorem dmax_1 : decode own_k30 1 = .ok (.iload_n 1, 1) := by decide +kernel
theorem dmax_2 : decode own_k30 2 = .ok (.if_icmp .lt 7, 3) := by decide +kernel
theorem dmax_5 : decode own_k30 5 = .ok (.iload_n 0, 1) := by decide +kernel
theorem dmax_6 : decode own_k30 6 = .ok (.goto 4, 3) := by decide +kernel
theorem dmax_9 : decode own_k30 9 = .ok (.iload_n 1, 1) := by decide +kernel
theorem dmax_10 : decode own_k30 10 = .ok (.ireturn, 1) := by decide +kernel
theorem pn_max : plainFor own_y17 = true := by decide +kernel
theorem ef_max (m : MethodId) (p1 : Int32) (p2 : Int32) : entryFrame m #[(.int p1), (.int p2)] 2 = (mkF m 0 #[own_i p1, own_i p2] []) := by first | (simp [entryFrame, mkF, argsToLocals, Value.category]; done) | rfl
def Q_max (Z : State) (p1 p2 : Int32) (h0 : Heap) (n0 : Nat) (v : Option Value) (h : Heap) (L : List Loc) : Prop := v = some (.int (own_max p1 p2)) ∧ Fr n0 L ∧ h = h0
theorem rm_max (l : Launch) (Z : State) (a0 : Array Value) (hw : own_W a0 Z) (ws : List Jvm.Cond) (p1 p2 : Int32) (h0 : Heap) (n0 : Nat) (Z0 : n0 ≤ h0.size)  :
    own_M l Z h0 ws own_y17 jdk_29_method_65_code 2 (some .int) (⟨0, 0, 0, 0⟩ : Room) #[(.int p1), (.int p2)] (Q_max Z p1 p2 h0 n0) := by
  refine MetFree.of_bodySF pn_max hisR ?_
  intro p e s m args below meth c s₁ Bd hml0 hP hK
  obtain ⟨rfl, hZ, hh⟩ := hP
  have hx := Bd.exec
  have hby := Bd.bytes
  have hml : c.maxLocals = 2 := hml0
  have hown : s.vm.findClass "java/lang/Math" = some m.cls := findClass_of_methodNamed Bd.named
  have hnm := (name_of_methodNamed Bd.named Bd.method).1
  have X0 : Stand p l e (⟨0, 0, 0, 0⟩ : Room) s m #[(.int p1), (.int p2)] below meth c s₁ [] 0 0 := Stand.of_body Bd
  have e0 : s₁.heap = h0 := by rw [← hh, Bd.state]; rfl
  have N0 := Fr.nil n0
  have pre0 : ∀ t, Steps p.tables e below (s₁.setTop (mkF m 0 #[own_i p1, own_i p2] [])) t → Steps p.tables e below (s₁.setTop (entryFrame m #[(.int p1), (.int p2)] 2)) t := fun t k => castTop (ef_max m p1 p2) k
  have pre2 : own_G p e below s₁ s₁ _ _ := fun t k => pre0 t (by
    refine XS.iloadN X0.here hx rfl (hb hby dmax_0) rfl ?_
    refine XS.iloadN X0.here hx rfl (hb hby dmax_1) rfl ?_
    exact k)
  by_cases hc : p1 < p2
  · skip
    have hf : own_max p1 p2 = p2 := if_pos hc
    have pre3 : own_G p e below s₁ s₁ _ _ := fun t k => pre2 t (by
      refine XS.icmpYes X0.here hx rfl (pc0 := 2) (pc' := 9) rfl (hb hby dmax_2) rfl (XT.ii_lt_t hc) (by decide) (by decide) ?_
      refine XS.iloadN X0.here hx rfl (hb hby dmax_9) rfl ?_
      exact k)
    obtain ⟨fs, hr, hrun, hended, hW, hsame⟩ := X0.leave (v := some (.int p2)) (fun h => by rw [Bd.returns] at h; cases h)
    refine ⟨_, _, pre3 _ ?_, hrun, hended, _, _, rfl, ?_, ⟨_, rfl⟩, hW, hsame.mono (by decide) (by decide)⟩
    · exact retI X0 hx Bd.returns (hb hby dmax_10) hr
    · show Q_max Z p1 p2 h0 n0 _ s₁.heap _
      unfold Q_max; rw [hf]
      rw [e0]
      exact ⟨rfl, N0, rfl⟩
  · skip
    have hf : own_max p1 p2 = p1 := if_neg hc
    have pre3 : own_G p e below s₁ s₁ _ _ := fun t k => pre2 t (by
      refine XS.icmpNo X0.here hx rfl (hb hby dmax_2) rfl (XT.ii_lt_f hc) ?_
      refine XS.iloadN X0.here hx rfl (hb hby dmax_5) rfl ?_
      refine XS.goto X0.here hx rfl (pc0 := 6) (pc' := 10) rfl (hb hby dmax_6) (by decide) (by decide) ?_
      exact k)
    obtain ⟨fs, hr, hrun, hended, hW, hsame⟩ := X0.leave (v := some (.int p1)) (fun h => by rw [Bd.returns] at h; cases h)
    refine ⟨_, _, pre3 _ ?_, hrun, hended, _, _, rfl, ?_, ⟨_, rfl⟩, hW, hsame.mono (by decide) (by decide)⟩
    · exact retI X0 hx Bd.returns (hb hby dmax_10) hr
    · show Q_max Z p1 p2 h0 n0 _ s₁.heap _
      unfold Q_max; rw [hf]
      rw [e0]
      exact ⟨rfl, N0, rfl⟩
theorem dabc_0 : decode jdk_22_method_1_code 0 = .ok (.aload_n 0, 1) := by decide +kernel
theorem dabc_1 : decode jdk_22_method_1_code 1 = .ok (.invokespecial 1, 3) := by decide +kernel
theorem dabc_4 : decode jdk_22_method_1_code 4 = .ok (.return_, 1) := by decide +kernel
theorem pn_abc : plainName "java/util/AbstractCollection" = true := by first | (simp [plainName, overriddenIn]; done) | decide +kernel
theorem ef_abc (m : MethodId) (a1 : Addr) : entryFrame m #[(.ref a1)] 1 = (mkF m 0 #[own_r a1] []) := by first | (simp [entryFrame, mkF, argsToLocals, Value.category]; done) | rfl
def Q_abc (Z : State) (a1 : Addr) (h0 : Heap) (n0 : Nat) (v : Option Value) (h : Heap) (L : List Loc) : Prop := v = none ∧ Fr n0 L ∧ h = h0
theorem rm_abc (l : Launch) (Z : State) (a0 : Array Value) (hw : own_W a0 Z) (ws : List Jvm.Cond) (a1 : Addr) (h0 : Heap) (n0 : Nat) (Z0 : n0 ≤ h0.size)  :
    own_M l Z h0 ws own_y23 jdk_22_method_1_code 1 none (⟨1, 0, 0, 12⟩ : Room) #[(.ref a1)] (Q_abc Z a1 h0 n0) := by
  refine MetFree.of_bodySF (plainFor_of_name pn_abc) hisR ?_
  intro p e s m args below meth c s₁ Bd hml0 hP hK
  obtain ⟨rfl, hZ, hh⟩ := hP
  have hx := Bd.exec
  have hby := Bd.bytes
  have hml : c.maxLocals = 1 := hml0
  have hown : s.vm.findClass "java/util/AbstractCollection" = some m.cls := findClass_of_methodNamed Bd.named
  have hnm := (name_of_methodNamed Bd.named Bd.method).1
  have X0 : Stand p l e (⟨1, 0, 0, 12⟩ : Room) s m #[(.ref a1)] below meth c s₁ [] 0 0 := Stand.of_body Bd
  have e0 : s₁.heap = h0 := by rw [← hh, Bd.state]; rfl
  have N0 := Fr.nil n0
  have pre0 : ∀ t, Steps p.tables e below (s₁.setTop (mkF m 0 #[own_r a1] [])) t → Steps p.tables e below (s₁.setTop (entryFrame m #[(.ref a1)] 1)) t := fun t k => castTop (ef_abc m a1) k
  have pre2 : own_G p e below s₁ s₁ _ _ := fun t k => pre0 t (by
    refine XS.aloadN X0.here hx rfl (hb hby dabc_0) rfl rfl ?_
    exact k)
  obtain ⟨T3, X3, e3, st3⟩ := initO X0 hx hZ hown (own_h hw 19 rfl) (own_h hw 20 rfl) (own_h hw 21 rfl) e0 (g := (mkF m 1 #[own_r a1] [(.ref a1)])) rfl (by rw [hml]; rfl) rfl (hb hby dabc_1) (by decide) (W := 0) (by show 2 * 0 + _ ≤ _; exact Nat.le_of_eq rfl) (by decide)
  have pre4 : own_G p e below T3 s₁ _ _ := fun t k => pre2 t (by
    refine st3 _ ?_
    exact k)
  obtain ⟨fs, hr, hrun, hended, hW, hsame⟩ := X3.leave (v := none) (fun _ => rfl)
  refine ⟨_, _, pre4 _ ?_, hrun, hended, _, _, rfl, ?_, ⟨_, rfl⟩, hW, hsame.mono (by decide) (by decide)⟩
  · exact X3.returnOut hx Bd.returns (hb hby dabc_4) hr
  · show Q_abc Z a1 h0 n0 _ T3.heap _
    rw [e3]
    exact ⟨rfl, N0, rfl⟩
theorem dabl_0 : decode own_k36 0 = .ok (.aload_n 0, 1) := by decide +kernel
theorem dabl_1 : decode own_k36 1 = .ok (.invokespecial 1, 3) := by decide +kernel
theorem dabl_4 : decode own_k36 4 = .ok (.aload_n 0, 1) := by decide +kernel
theorem dabl_5 : decode own_k36 5 = .ok (.iconst 0, 1) := by decide +kernel
theorem dabl_6 : decode own_k36 6 = .ok (.putfield 7, 3) := by decide +kernel
theorem dabl_9 : decode own_k36 9 = .ok (.return_, 1) := by decide +kernel
theorem pd___V : parseMethodDescriptor "()V" = some ⟨[], none⟩ := by decide +kernel
theorem pn_abl : plainName "java/util/AbstractList" = true := by first | (simp [plainName, overriddenIn]; done) | decide +kernel
theorem ef_abl (m : MethodId) (a1 : Addr) : entryFrame m #[(.ref a1)] 1 = (mkF m 0 #[own_r a1] []) := by first | (simp [entryFrame, mkF, argsToLocals, Value.category]; done) | rfl
def Q_abl (Z : State) (a1 : Addr) (u1 u2 u3 : Value) (h0 : Heap) (n0 : Nat) (v : Option Value) (h : Heap) (L : List Loc) : Prop := v = none ∧ Fr n0 L ∧ Keep h0 h [a1] ∧ Fld Z h a1 "java/util/AbstractList" "modCount" "I" (.int (0 : Int32)) ∧ Fld Z h a1 "java/util/ArrayList" "elementData" "[Ljava/lang/Object;" u2 ∧ Fld Z h a1 "java/util/ArrayList" "size" "I" u3
theorem rm_abl (l : Launch) (Z : State) (a0 : Array Value) (hw : own_W a0 Z) (ws : List Jvm.Cond) (a1 : Addr) (u1 u2 u3 : Value) (h0 : Heap) (n0 : Nat) (Z0 : n0 ≤ h0.size) (E1 : Exa Z h0 a1 "java/util/ArrayList") (F1 : Fld Z h0 a1 "java/util/AbstractList" "modCount" "I" u1) (F2 : Fld Z h0 a1 "java/util/ArrayList" "elementData" "[Ljava/lang/Object;" u2) (F3 : Fld Z h0 a1 "java/util/ArrayList" "size" "I" u3) (g_a1 : n0 ≤ a1) :
    own_M l Z h0 ws own_y24 jdk_39_method_1_code 1 none (⟨2, 0, 0, 24⟩ : Room) #[(.ref a1)] (Q_abl Z a1 u1 u2 u3 h0 n0) := by
  refine MetFree.of_bodySF (plainFor_of_name pn_abl) hisR ?_
  intro p e s m args below meth c s₁ Bd hml0 hP hK
  obtain ⟨rfl, hZ, hh⟩ := hP
  have hx := Bd.exec
  have hby := Bd.bytes
  have hml : c.maxLocals = 1 := hml0
  have hown : s.vm.findClass "java/util/AbstractList" = some m.cls := findClass_of_methodNamed Bd.named
  have hnm := (name_of_methodNamed Bd.named Bd.method).1
  have X0 : Stand p l e (⟨2, 0, 0, 24⟩ : Room) s m #[(.ref a1)] below meth c s₁ [] 0 0 := Stand.of_body Bd
  have e0 : s₁.heap = h0 := by rw [← hh, Bd.state]; rfl
  have N0 := Fr.nil n0
  have pre0 : ∀ t, Steps p.tables e below (s₁.setTop (mkF m 0 #[own_r a1] [])) t → Steps p.tables e below (s₁.setTop (entryFrame m #[(.ref a1)] 1)) t := fun t k => castTop (ef_abl m a1) k
  have K2 : Keep h0 h0 [a1] := Keep.refl h0 [a1]
  have pre3 : own_G p e below s₁ s₁ _ _ := fun t k => pre0 t (by
    refine XS.aloadN X0.here hx rfl (hb hby dabl_0) rfl rfl ?_
    exact k)
  obtain ⟨_, _, ⟨T4, L4, kk4, nn4⟩, -, X4, ⟨Lc4, hQ4, l4, y4, z4⟩, st4⟩ := X0.specialBack hx (y := own_y23) rfl hown (mvT hZ (own_h hw 13 rfl)) (mvT hZ (own_h hw 14 rfl)) (mvT hZ (own_h hw 18 rfl)) (by decide) (backOf (W := 0) (rm_abc l Z a0 hw [] a1 h0 n0 Z0 ) hZ (own_h hw 18 rfl) (own_h hw 17 rfl) (by decide) (by decide)) (g := (mkF m 1 #[own_r a1] [(.ref a1)])) rfl (by rw [hml]; rfl) (Steps.refl _) (a := a1) (argsL := []) (rest := []) (lenOf pd___V rfl) rfl (by show 2 * 0 + _ ≤ _; exact Nat.le_of_eq rfl) (hb hby dabl_1) (fun _ _ => ⟨rfl, e0, (by decide : 0 + 0 ≤ _), (by decide : 0 + 0 ≤ _)⟩)
  dsimp only [Pt.U, Pt.locs, Pt.cells, Pt.slots] at X4 l4 y4 z4 st4 hQ4
  subst l4 y4 z4
  obtain ⟨rfl, N4q, eq4⟩ := hQ4
  have N4 := Fr.app N0 N4q
  have pre5 : own_G p e below T4 s₁ _ _ := fun t k => pre3 t (by
    refine st4.trans ?_
    refine XS.aloadN X4.here hx rfl (hb hby dabl_4) rfl rfl ?_
    refine XS.iconst X4.here hx rfl (hb hby dabl_5) ?_
    exact k)
  obtain ⟨T6, h6, X6, e6, W6, st6⟩ := putF X4 hx hZ hown (host := "") (Or.inl (own_h hw 22 rfl)) Via.refl eq4 F1 E1 (Or.inl (own_h hw 23 rfl)) (own_h hw 2 rfl) (ty := .int) (by decide) rfl rfl (g := (mkF m 6 #[own_r a1] [(.int (0 : Int32)), (.ref a1)])) rfl rfl (hb hby dabl_6)
  have F6 := F1.same W6
  have N6 := Fr.snoc X6 N4 g_a1
  have f7_0 := E1.wr W6
  have f7_2 := F2.other W6 (Or.inr (own_sn (own_l26 hw) (own_l23 hw) (by decide)))
  have f7_3 := F3.other W6 (Or.inr (own_sn (own_l80 hw) (own_l23 hw) (by decide)))
  have K8 := K2.wr W6 (Or.inl (List.mem_of_getElem? (i := 0) rfl))
  have Z6 : n0 ≤ h6.size := Nat.le_trans Z0 (Keep.of_wr W6).1
  have pre9 : own_G p e below T6 s₁ _ _ := fun t k => pre5 t (by
    refine st6 _ ?_
    exact k)
  obtain ⟨fs, hr, hrun, hended, hW, hsame⟩ := X6.leave (v := none) (fun _ => rfl)
  refine ⟨_, _, pre9 _ ?_, hrun, hended, _, _, rfl, ?_, ⟨_, rfl⟩, hW, hsame.mono (by decide) (by decide)⟩
  · exact X6.returnOut hx Bd.returns (hb hby dabl_9) hr
  · show Q_abl Z a1 u1 u2 u3 h0 n0 _ T6.heap _
    rw [e6]
    exact ⟨rfl, N6, K8, F6, f7_2, f7_3⟩
theorem dali_0 : decode own_k37 0 = .ok (.aload_n 0, 1) := by decide +kernel
theorem dali_1 : decode own_k37 1 = .ok (.invokespecial 1, 3) := by decide +kernel
theorem dali_4 : decode own_k37 4 = .ok (.aload_n 0, 1) := by decide +kernel
theorem dali_5 : decode own_k37 5 = .ok (.getstatic 39, 3) := by decide +kernel
theorem dali_8 : decode own_k37 8 = .ok (.putfield 9, 3) := by decide +kernel
theorem dali_11 : decode own_k37 11 = .ok (.return_, 1) := by decide +kernel
theorem pn_ali : plainName "java/util/ArrayList" = true := by first | (simp [plainName, overriddenIn]; done) | decide +kernel
theorem ef_ali (m : MethodId) (a1 : Addr) : entryFrame m #[(.ref a1)] 1 = (mkF m 0 #[own_r a1] []) := by first | (simp [entryFrame, mkF, argsToLocals, Value.category]; done) | rfl
def Q_ali (Z : State) (a1 de : Addr) (h0 : Heap) (n0 : Nat) (v : Option Value) (h : Heap) (L : List Loc) : Prop := v = none ∧ Fr n0 L ∧ Keep h0 h [a1] ∧ Fld Z h a1 "java/util/AbstractList" "modCount" "I" (.int (0 : Int32)) ∧ Fld Z h a1 "java/util/ArrayList" "elementData" "[Ljava/lang/Object;" (.ref de) ∧ Fld Z h a1 "java/util/ArrayList" "size" "I" (.int (0 : Int32))
theorem rm_ali (l : Launch) (Z : State) (a0 : Array Value) (hw : own_W a0 Z) (ws : List Jvm.Cond) (a1 de : Addr) (h0 : Heap) (n0 : Nat) (Z0 : n0 ≤ h0.size) (SDE : Sta Z h0 "java/util/ArrayList" "DEFAULTCAPACITY_EMPTY_ELEMENTDATA" "[Ljava/lang/Object;" (.ref de)) (E1 : Exa Z h0 a1 "java/util/ArrayList") (F1 : Fld Z h0 a1 "java/util/AbstractList" "modCount" "I" (.int (0 : Int32))) (F2 : Fld Z h0 a1 "java/util/ArrayList" "elementData" "[Ljava/lang/Object;" .null) (F3 : Fld Z h0 a1 "java/util/ArrayList" "size" "I" (.int (0 : Int32))) (g_a1 : n0 ≤ a1)  :
    own_M l Z h0 ws own_y3 jdk_38_method_2_code 1 none (⟨3, 0, 0, 36⟩ : Room) #[(.ref a1)] (Q_ali Z a1 de h0 n0) := by
  refine MetFree.of_bodySF (plainFor_of_name pn_ali) hisR ?_
  intro p e s m args below meth c s₁ Bd hml0 hP hK
  obtain ⟨rfl, hZ, hh⟩ := hP
  have hx := Bd.exec
  have hby := Bd.bytes
  have hml : c.maxLocals = 1 := hml0
  have hown : s.vm.findClass "java/util/ArrayList" = some m.cls := findClass_of_methodNamed Bd.named
  have hnm := (name_of_methodNamed Bd.named Bd.method).1
  have X0 : Stand p l e (⟨3, 0, 0, 36⟩ : Room) s m #[(.ref a1)] below meth c s₁ [] 0 0 := Stand.of_body Bd
  have e0 : s₁.heap = h0 := by rw [← hh, Bd.state]; rfl
  have N0 := Fr.nil n0
  have pre0 : ∀ t, Steps p.tables e below (s₁.setTop (mkF m 0 #[own_r a1] [])) t → Steps p.tables e below (s₁.setTop (entryFrame m #[(.ref a1)] 1)) t := fun t k => castTop (ef_ali m a1) k
  have K2 : Keep h0 h0 [a1] := Keep.refl h0 [a1]
  have pre3 : own_G p e below s₁ s₁ _ _ := fun t k => pre0 t (by
    refine XS.aloadN X0.here hx rfl (hb hby dali_0) rfl rfl ?_
    exact k)
  obtain ⟨_, _, ⟨T4, L4, kk4, nn4⟩, -, X4, ⟨Lc4, hQ4, l4, y4, z4⟩, st4⟩ := X0.specialBack hx (y := own_y24) rfl hown (mvT hZ (own_h hw 7 rfl)) (mvT hZ (own_h hw 8 rfl)) (mvT hZ (own_h hw 12 rfl)) (by decide) (backOf (W := 0) (rm_abl l Z a0 hw [] a1 _ _ _ h0 n0 Z0 E1 F1 F2 F3 g_a1) hZ (own_h hw 12 rfl) (own_h hw 11 rfl) (by decide) (by decide)) (g := (mkF m 1 #[own_r a1] [(.ref a1)])) rfl (by rw [hml]; rfl) (Steps.refl _) (a := a1) (argsL := []) (rest := []) (lenOf pd___V rfl) rfl (by show 2 * 0 + _ ≤ _; exact Nat.le_of_eq rfl) (hb hby dali_1) (fun _ _ => ⟨rfl, e0, (by decide : 0 + 0 ≤ _), (by decide : 0 + 0 ≤ _)⟩)
  dsimp only [Pt.U, Pt.locs, Pt.cells, Pt.slots] at X4 l4 y4 z4 st4 hQ4
  subst l4 y4 z4
  obtain ⟨rfl, N4q, Kc4, Fm4, Fe4, Fz4⟩ := hQ4
  have N4 := Fr.app N0 N4q
  have f5_0 := E1.keep Kc4
  have f5_4 := own_sta_keep SDE Kc4 (by intro x hx; simp only [List.mem_cons, List.not_mem_nil, or_false] at hx; rcases hx with rfl; exact own_ns_exa E1)
  have K6 := K2.trans Kc4 (fun x hx => by cases List.mem_singleton.mp hx; exact (Or.inl (List.mem_of_getElem? (i := 0) rfl)))
  have Z4 : n0 ≤ T4.heap.size := Nat.le_trans Z0 Kc4.1
  have e4 : T4.heap = T4.heap := rfl
  have pre7 : own_G p e below T4 s₁ _ _ := fun t k => pre3 t (by
    refine st4.trans ?_
    refine XS.aloadN X4.here hx rfl (hb hby dali_4) rfl rfl ?_
    exact k)
  obtain ⟨T8, X8, e8, st8⟩ := getS2 X4 hx hZ hown (host := "") (Or.inl (own_h hw 24 rfl)) Via.refl e4 f5_4 (g := (mkF m 5 #[own_r a1] [(.ref a1)])) rfl (hb hby dali_5)
  have pre9 : own_G p e below T8 s₁ _ _ := fun t k => pre7 t (by
    refine st8 _ ?_
    exact k)
  obtain ⟨T10, h10, X10, e10, W10, st10⟩ := putF X8 hx hZ hown (host := "") (Or.inl (own_h hw 25 rfl)) Via.refl e8 Fe4 f5_0 (Or.inl (own_h hw 26 rfl)) (own_h hw 2 rfl) (ty := (.array (.object "java/lang/Object"))) (by decide) rfl rfl (g := (mkF m 8 #[own_r a1] [(.ref de), (.ref a1)])) rfl rfl (hb hby dali_8)
  have F10 := Fe4.same W10
  have N10 := Fr.snoc X10 N4 g_a1
  have f11_0 := f5_0.wr W10
  have f11_1 := f5_4.wr W10
  have f11_2 := Fm4.other W10 (Or.inr (own_sn (own_l23 hw) (own_l26 hw) (by decide)))
  have f11_4 := Fz4.other W10 (Or.inr (own_sn (own_l80 hw) (own_l26 hw) (by decide)))
  have K12 := K6.wr W10 (Or.inl (List.mem_of_getElem? (i := 0) rfl))
  have Z10 : n0 ≤ h10.size := Nat.le_trans Z4 (Keep.of_wr W10).1
  have pre13 : own_G p e below T10 s₁ _ _ := fun t k => pre9 t (by
    refine st10 _ ?_
    exact k)
  obtain ⟨fs, hr, hrun, hended, hW, hsame⟩ := X10.leave (v := none) (fun _ => rfl)
  refine ⟨_, _, pre13 _ ?_, hrun, hended, _, _, rfl, ?_, ⟨_, rfl⟩, hW, hsame.mono (by decide) (by decide)⟩
  · exact X10.returnOut hx Bd.returns (hb hby dali_11) hr
  · show Q_ali Z a1 de h0 n0 _ T10.heap _
    rw [e10]
    exact ⟨rfl, N10, K12, f11_2, F10, f11_4⟩
theorem dalc_0 : decode own_k24 0 = .ok (.aload_n 0, 1) := by decide +kernel
theorem dalc_1 : decode own_k24 1 = .ok (.invokespecial 1, 3) := by decide +kernel
theorem dalc_4 : decode own_k24 4 = .ok (.iload_n 1, 1) := by decide +kernel
theorem dalc_5 : decode own_k24 5 = .ok (.ifCond .le 14, 3) := by decide +kernel
theorem dalc_8 : decode own_k24 8 = .ok (.aload_n 0, 1) := by decide +kernel
theorem dalc_9 : decode own_k24 9 = .ok (.iload_n 1, 1) := by decide +kernel
theorem dalc_10 : decode own_k24 10 = .ok (.anewarray 7, 3) := by decide +kernel
theorem dalc_13 : decode own_k24 13 = .ok (.putfield 9, 3) := by decide +kernel
theorem dalc_16 : decode own_k24 16 = .ok (.goto 44, 3) := by decide +kernel
theorem dalc_60 : decode own_k24 60 = .ok (.return_, 1) := by decide +kernel
theorem ef_alc (m : MethodId) (a1 : Addr) (n : Int32) : entryFrame m #[(.ref a1), (.int n)] 2 = (mkF m 0 #[own_r a1, own_i n] []) := by first | (simp [entryFrame, mkF, argsToLocals, Value.category]; done) | rfl
def Q_alc (Z : State) (a1 : Addr) (n : Int32) (h0 : Heap) (n0 : Nat) (v : Option Value) (h : Heap) (L : List Loc) : Prop := ∃ (br : Addr) (kr : ClassId), v = none ∧ Fr n0 L ∧ Keep h0 h [a1] ∧ n0 ≤ br ∧ h0.size ≤ br ∧ Fld Z h a1 "java/util/AbstractList" "modCount" "I" (.int (0 : Int32)) ∧ Fld Z h a1 "java/util/ArrayList" "elementData" "[Ljava/lang/Object;" (.ref br) ∧ Fld Z h a1 "java/util/ArrayList" "size" "I" (.int (0 : Int32)) ∧ Arv Z h br kr (.object "java/lang/Object") n [] .null ∧ Ovr Z kr "java/lang/Object"
theorem rm_alc (l : Launch) (Z : State) (a0 : Array Value) (hw : own_W a0 Z) (ws : List Jvm.Cond) (a1 : Addr) (n : Int32) (h0 : Heap) (n0 : Nat) (Z0 : n0 ≤ h0.size) (E1 : Exa Z h0 a1 "java/util/ArrayList") (F1 : Fld Z h0 a1 "java/util/AbstractList" "modCount" "I" (.int (0 : Int32))) (F2 : Fld Z h0 a1 "java/util/ArrayList" "elementData" "[Ljava/lang/Object;" .null) (F3 : Fld Z h0 a1 "java/util/ArrayList" "size" "I" (.int (0 : Int32))) (g_a1 : n0 ≤ a1) (hn : (0 : Int32) < n) (hn0 : ¬ n < 0) (hc : n.toNatClampNeg ≤ 4) :
    own_M l Z h0 ws own_y34 jdk_38_method_1_code 2 none (⟨3, 1, 4, 36⟩ : Room) #[(.ref a1), (.int n)] (Q_alc Z a1 n h0 n0) := by
  refine MetFree.of_bodySF (plainFor_of_name pn_ali) hisR ?_
  intro p e s m args below meth c s₁ Bd hml0 hP hK
  obtain ⟨rfl, hZ, hh⟩ := hP
  have hx := Bd.exec
  have hby := Bd.bytes
  have hml : c.maxLocals = 2 := hml0
  have hown : s.vm.findClass "java/util/ArrayList" = some m.cls := findClass_of_methodNamed Bd.named
  have hnm := (name_of_methodNamed Bd.named Bd.method).1
  have X0 : Stand p l e (⟨3, 1, 4, 36⟩ : Room) s m #[(.ref a1), (.int n)] below meth c s₁ [] 0 0 := Stand.of_body Bd
  have e0 : s₁.heap = h0 := by rw [← hh, Bd.state]; rfl
  have N0 := Fr.nil n0
  have pre0 : ∀ t, Steps p.tables e below (s₁.setTop (mkF m 0 #[own_r a1, own_i n] [])) t → Steps p.tables e below (s₁.setTop (entryFrame m #[(.ref a1), (.int n)] 2)) t := fun t k => castTop (ef_alc m a1 n) k
  have K2 : Keep h0 h0 [a1] := Keep.refl h0 [a1]
  have pre3 : own_G p e below s₁ s₁ _ _ := fun t k => pre0 t (by
    refine XS.aloadN X0.here hx rfl (hb hby dalc_0) rfl rfl ?_
    exact k)
  obtain ⟨_, _, ⟨T4, L4, kk4, nn4⟩, -, X4, ⟨Lc4, hQ4, l4, y4, z4⟩, st4⟩ := X0.specialBack hx (y := own_y24) rfl hown (mvT hZ (own_h hw 7 rfl)) (mvT hZ (own_h hw 8 rfl)) (mvT hZ (own_h hw 12 rfl)) (by decide) (backOf (W := 0) (rm_abl l Z a0 hw [] a1 _ _ _ h0 n0 Z0 E1 F1 F2 F3 g_a1) hZ (own_h hw 12 rfl) (own_h hw 11 rfl) (by decide) (by decide)) (g := (mkF m 1 #[own_r a1, own_i n] [(.ref a1)])) rfl (by rw [hml]; rfl) (Steps.refl _) (a := a1) (argsL := []) (rest := []) (lenOf pd___V rfl) rfl (by show 2 * 0 + _ ≤ _; exact Nat.le_of_eq rfl) (hb hby dalc_1) (fun _ _ => ⟨rfl, e0, (by decide : 0 + 0 ≤ _), (by decide : 0 + 0 ≤ _)⟩)
  dsimp only [Pt.U, Pt.locs, Pt.cells, Pt.slots] at X4 l4 y4 z4 st4 hQ4
  subst l4 y4 z4
  obtain ⟨rfl, N4q, Kc4, Fm4, Fe4, Fz4⟩ := hQ4
  have N4 := Fr.app N0 N4q
  have f5_0 := E1.keep Kc4
  have K6 := K2.trans Kc4 (fun x hx => by cases List.mem_singleton.mp hx; exact (Or.inl (List.mem_of_getElem? (i := 0) rfl)))
  have Z4 : n0 ≤ T4.heap.size := Nat.le_trans Z0 Kc4.1
  have e4 : T4.heap = T4.heap := rfl
  have pre7 : own_G p e below T4 s₁ _ _ := fun t k => pre3 t (by
    refine st4.trans ?_
    refine XS.iloadN X4.here hx rfl (hb hby dalc_4) rfl ?_
    refine XS.ifNo X4.here hx rfl (hb hby dalc_5) rfl (XT.i0_le_f hn) ?_
    refine XS.aloadN X4.here hx rfl (hb hby dalc_8) rfl rfl ?_
    refine XS.iloadN X4.here hx rfl (hb hby dalc_9) rfl ?_
    exact k)
  obtain ⟨T8, h8, k8, X8, e8, E8, A8, O8, st8⟩ := newR X4 hx hZ hown (own_h hw 213 rfl) (own_h hw 214 rfl) e4 (g := (mkF m 10 #[own_r a1, own_i n] [(.int n), (.ref a1)])) rfl (hb hby dalc_10) rfl hn0 (cap := 4) hc (by decide) (by decide) (by decide)
  obtain ⟨b8, g8⟩ : ∃ z, z = T4.heap.size := ⟨_, rfl⟩
  rw [← g8] at A8 st8
  have ne_a1_b8 : a1 ≠ b8 := Nat.ne_of_lt (Nat.lt_of_lt_of_eq f5_0.lt g8.symm)
  have g_b8 : n0 ≤ b8 := Nat.le_trans Z4 (Nat.le_of_eq g8.symm)
  have sz_b8 : h0.size ≤ b8 := Nat.le_trans K6.1 (Nat.le_of_eq g8.symm)
  have Z8 : n0 ≤ h8.size := Nat.le_trans Z4 E8.1
  have f9_0 := f5_0.ext E8
  have f9_1 := Fm4.ext E8
  have f9_2 := Fe4.ext E8
  have f9_3 := Fz4.ext E8
  have K10 := K6.ext E8
  have V8 := Arv.new A8 hn0
  have pre11 : own_G p e below T8 s₁ _ _ := fun t k => pre7 t (by
    refine st8 _ ?_
    exact k)
  obtain ⟨T12, h12, X12, e12, W12, st12⟩ := putF X8 hx hZ hown (host := "") (Or.inl (own_h hw 25 rfl)) Via.refl e8 f9_2 f9_0 (Or.inl (own_h hw 26 rfl)) (own_h hw 2 rfl) (ty := (.array (.object "java/lang/Object"))) (by decide) rfl rfl (g := (mkF m 13 #[own_r a1, own_i n] [(.ref b8), (.ref a1)])) rfl rfl (hb hby dalc_13)
  have F12 := f9_2.same W12
  have N12 := Fr.snoc X12 N4 g_a1
  have f13_0 := f9_0.wr W12
  have f13_1 := f9_1.other W12 (Or.inr (own_sn (own_l23 hw) (own_l26 hw) (by decide)))
  have f13_3 := f9_3.other W12 (Or.inr (own_sn (own_l80 hw) (own_l26 hw) (by decide)))
  have f13_4 := V8.other W12 ne_a1_b8.symm
  have K14 := K10.wr W12 (Or.inl (List.mem_of_getElem? (i := 0) rfl))
  have Z12 : n0 ≤ h12.size := Nat.le_trans Z8 (Keep.of_wr W12).1
  have pre15 : own_G p e below T12 s₁ _ _ := fun t k => pre11 t (by
    refine st12 _ ?_
    refine XS.goto X12.here hx rfl (pc0 := 16) (pc' := 60) rfl (hb hby dalc_16) (by decide) (by decide) ?_
    exact k)
  obtain ⟨fs, hr, hrun, hended, hW, hsame⟩ := X12.leave (v := none) (fun _ => rfl)
  refine ⟨_, _, pre15 _ ?_, hrun, hended, _, _, rfl, ?_, ⟨_, rfl⟩, hW, hsame.mono (by decide) (by decide)⟩
  · exact X12.returnOut hx Bd.returns (hb hby dalc_60) hr
  · show Q_alc Z a1 n h0 n0 _ T12.heap _
    rw [e12]
    exact ⟨b8, k8, rfl, N12, K14, g_b8, sz_b8, f13_1, F12, f13_3, f13_4, O8⟩
theorem demp_0 : decode own_k31 0 = .ok (.aload_n 0, 1) := by decide +kernel
theorem demp_1 : decode own_k31 1 = .ok (.getfield 48, 3) := by decide +kernel
theorem demp_4 : decode own_k31 4 = .ok (.ifCond .ne 7, 3) := by decide +kernel
theorem demp_7 : decode own_k31 7 = .ok (.iconst 1, 1) := by decide +kernel
theorem demp_8 : decode own_k31 8 = .ok (.goto 4, 3) := by decide +kernel
theorem demp_11 : decode own_k31 11 = .ok (.iconst 0, 1) := by decide +kernel
theorem demp_12 : decode own_k31 12 = .ok (.ireturn, 1) := by decide +kernel
theorem ef_emp (m : MethodId) (a1 : Addr) : entryFrame m #[(.ref a1)] 1 = (mkF m 0 #[own_r a1] []) := by first | (simp [entryFrame, mkF, argsToLocals, Value.category]; done) | rfl
def Q_emp (Z : State) (a1 : Addr) (n : Int32) (h0 : Heap) (n0 : Nat) (v : Option Value) (h : Heap) (L : List Loc) : Prop := v = some (.int (own_em n)) ∧ Fr n0 L ∧ h = h0
theorem rm_emp (l : Launch) (Z : State) (a0 : Array Value) (hw : own_W a0 Z) (ws : List Jvm.Cond) (a1 : Addr) (n : Int32) (h0 : Heap) (n0 : Nat) (Z0 : n0 ≤ h0.size) (F3 : Fld Z h0 a1 "java/util/ArrayList" "size" "I" (.int n)) :
    own_M l Z h0 ws own_y7 jdk_38_method_9_code 1 (some .boolean) (⟨0, 0, 0, 0⟩ : Room) #[(.ref a1)] (Q_emp Z a1 n h0 n0) := by
  refine MetFree.of_bodySF (plainFor_of_name pn_ali) hisR ?_
  intro p e s m args below meth c s₁ Bd hml0 hP hK
  obtain ⟨rfl, hZ, hh⟩ := hP
  have hx := Bd.exec
  have hby := Bd.bytes
  have hml : c.maxLocals = 1 := hml0
  have hown : s.vm.findClass "java/util/ArrayList" = some m.cls := findClass_of_methodNamed Bd.named
  have hnm := (name_of_methodNamed Bd.named Bd.method).1
  have X0 : Stand p l e (⟨0, 0, 0, 0⟩ : Room) s m #[(.ref a1)] below meth c s₁ [] 0 0 := Stand.of_body Bd
  have e0 : s₁.heap = h0 := by rw [← hh, Bd.state]; rfl
  have N0 := Fr.nil n0
  have pre0 : ∀ t, Steps p.tables e below (s₁.setTop (mkF m 0 #[own_r a1] [])) t → Steps p.tables e below (s₁.setTop (entryFrame m #[(.ref a1)] 1)) t := fun t k => castTop (ef_emp m a1) k
  have pre2 : own_G p e below s₁ s₁ _ _ := fun t k => pre0 t (by
    refine XS.aloadN X0.here hx rfl (hb hby demp_0) rfl rfl ?_
    exact k)
  obtain ⟨T3, X3, e3, st3⟩ := getF X0 hx hZ hown (host := "") (Or.inl (own_h hw 79 rfl)) Via.refl e0 F3 (g := (mkF m 1 #[own_r a1] [(.ref a1)])) rfl rfl (hb hby demp_1)
  have pre4 : own_G p e below T3 s₁ _ _ := fun t k => pre2 t (by
    refine st3 _ ?_
    exact k)
  by_cases hc : n = 0
  · skip
    have hf : own_em n = 1 := if_pos hc
    have pre5 : own_G p e below T3 s₁ _ _ := fun t k => pre4 t (by
      refine XS.ifNo X3.here hx rfl (hb hby demp_4) rfl (XT.i0_ne_f hc) ?_
      refine XS.iconst X3.here hx rfl (hb hby demp_7) ?_
      refine XS.goto X3.here hx rfl (pc0 := 8) (pc' := 12) rfl (hb hby demp_8) (by decide) (by decide) ?_
      exact k)
    obtain ⟨fs, hr, hrun, hended, hW, hsame⟩ := X3.leave (v := some (.int (1 : Int32))) (fun h => by rw [Bd.returns] at h; cases h)
    refine ⟨_, _, pre5 _ ?_, hrun, hended, _, _, rfl, ?_, ⟨_, rfl⟩, hW, hsame.mono (by decide) (by decide)⟩
    · exact retN X3 hx (t := .boolean) Bd.returns (by simp) (hb hby demp_12) hr
    · show Q_emp Z a1 n h0 n0 _ T3.heap _
      unfold Q_emp; rw [hf]
      rw [e3]
      exact ⟨rfl, N0, rfl⟩
  · skip
    have hf : own_em n = 0 := if_neg hc
    have pre5 : own_G p e below T3 s₁ _ _ := fun t k => pre4 t (by
      refine XS.ifYes X3.here hx rfl (pc0 := 4) (pc' := 11) rfl (hb hby demp_4) rfl (XT.i0_ne_t hc) (by decide) (by decide) ?_
      refine XS.iconst X3.here hx rfl (hb hby demp_11) ?_
      exact k)
    obtain ⟨fs, hr, hrun, hended, hW, hsame⟩ := X3.leave (v := some (.int (0 : Int32))) (fun h => by rw [Bd.returns] at h; cases h)
    refine ⟨_, _, pre5 _ ?_, hrun, hended, _, _, rfl, ?_, ⟨_, rfl⟩, hW, hsame.mono (by decide) (by decide)⟩
    · exact retN X3 hx (t := .boolean) Bd.returns (by simp) (hb hby demp_12) hr
    · show Q_emp Z a1 n h0 n0 _ T3.heap _
      unfold Q_emp; rw [hf]
      rw [e3]
      exact ⟨rfl, N0, rfl⟩
theorem dasz_0 : decode jdk_38_method_8_code 0 = .ok (.aload_n 0, 1) := by decide +kernel
theorem dasz_1 : decode jdk_38_method_8_code 1 = .ok (.getfield 48, 3) := by decide +kernel
theorem dasz_4 : decode jdk_38_method_8_code 4 = .ok (.ireturn, 1) := by decide +kernel
theorem ef_asz (m : MethodId) (a1 : Addr) : entryFrame m #[(.ref a1)] 1 = (mkF m 0 #[own_r a1] []) := by first | (simp [entryFrame, mkF, argsToLocals, Value.category]; done) | rfl
def Q_asz (Z : State) (a1 : Addr) (n : Int32) (h0 : Heap) (n0 : Nat) (v : Option Value) (h : Heap) (L : List Loc) : Prop := v = some (.int n) ∧ Fr n0 L ∧ h = h0
theorem rm_asz (l : Launch) (Z : State) (a0 : Array Value) (hw : own_W a0 Z) (ws : List Jvm.Cond) (a1 : Addr) (n : Int32) (h0 : Heap) (n0 : Nat) (Z0 : n0 ≤ h0.size) (F3 : Fld Z h0 a1 "java/util/ArrayList" "size" "I" (.int n)) :
    own_M l Z h0 ws own_y12 jdk_38_method_8_code 1 (some .int) (⟨0, 0, 0, 0⟩ : Room) #[(.ref a1)] (Q_asz Z a1 n h0 n0) := by
  refine MetFree.of_bodySF (plainFor_of_name pn_ali) hisR ?_
  intro p e s m args below meth c s₁ Bd hml0 hP hK
  obtain ⟨rfl, hZ, hh⟩ := hP
  have hx := Bd.exec
  have hby := Bd.bytes
  have hml : c.maxLocals = 1 := hml0
  have hown : s.vm.findClass "java/util/ArrayList" = some m.cls := findClass_of_methodNamed Bd.named
  have hnm := (name_of_methodNamed Bd.named Bd.method).1
  have X0 : Stand p l e (⟨0, 0, 0, 0⟩ : Room) s m #[(.ref a1)] below meth c s₁ [] 0 0 := Stand.of_body Bd
  have e0 : s₁.heap = h0 := by rw [← hh, Bd.state]; rfl
  have N0 := Fr.nil n0
  have pre0 : ∀ t, Steps p.tables e below (s₁.setTop (mkF m 0 #[own_r a1] [])) t → Steps p.tables e below (s₁.setTop (entryFrame m #[(.ref a1)] 1)) t := fun t k => castTop (ef_asz m a1) k
  have pre2 : own_G p e below s₁ s₁ _ _ := fun t k => pre0 t (by
    refine XS.aloadN X0.here hx rfl (hb hby dasz_0) rfl rfl ?_
    exact k)
  obtain ⟨T3, X3, e3, st3⟩ := getF X0 hx hZ hown (host := "") (Or.inl (own_h hw 79 rfl)) Via.refl e0 F3 (g := (mkF m 1 #[own_r a1] [(.ref a1)])) rfl rfl (hb hby dasz_1)
  have pre4 : own_G p e below T3 s₁ _ _ := fun t k => pre2 t (by
    refine st3 _ ?_
    exact k)
  obtain ⟨fs, hr, hrun, hended, hW, hsame⟩ := X3.leave (v := some (.int n)) (fun h => by rw [Bd.returns] at h; cases h)
  refine ⟨_, _, pre4 _ ?_, hrun, hended, _, _, rfl, ?_, ⟨_, rfl⟩, hW, hsame.mono (by decide) (by decide)⟩
  · exact retI X3 hx Bd.returns (hb hby dasz_4) hr
  · show Q_asz Z a1 n h0 n0 _ T3.heap _
    rw [e3]
    exact ⟨rfl, N0, rfl⟩
theorem dgrd_0 : decode own_k13 0 = .ok (.aload_n 0, 1) := by decide +kernel
theorem dgrd_1 : decode own_k13 1 = .ok (.getfield 9, 3) := by decide +kernel
theorem dgrd_4 : decode own_k13 4 = .ok (.arraylength, 1) := by decide +kernel
theorem dgrd_5 : decode own_k13 5 = .ok (.istore_n 2, 1) := by decide +kernel
theorem dgrd_6 : decode own_k13 6 = .ok (.iload_n 2, 1) := by decide +kernel
theorem dgrd_7 : decode own_k13 7 = .ok (.ifCond .gt 13, 3) := by decide +kernel
theorem dgrd_10 : decode own_k13 10 = .ok (.aload_n 0, 1) := by decide +kernel
theorem dgrd_11 : decode own_k13 11 = .ok (.getfield 9, 3) := by decide +kernel
theorem dgrd_14 : decode own_k13 14 = .ok (.getstatic 39, 3) := by decide +kernel
theorem dgrd_17 : decode own_k13 17 = .ok (.if_acmp .eq 28, 3) := by decide +kernel
theorem dgrd_45 : decode own_k13 45 = .ok (.aload_n 0, 1) := by decide +kernel
theorem dgrd_46 : decode own_k13 46 = .ok (.bipush 10, 2) := by decide +kernel
theorem dgrd_48 : decode own_k13 48 = .ok (.iload_n 1, 1) := by decide +kernel
theorem dgrd_49 : decode own_k13 49 = .ok (.invokestatic 79, 3) := by decide +kernel
theorem dgrd_52 : decode own_k13 52 = .ok (.anewarray 7, 3) := by decide +kernel
theorem dgrd_55 : decode own_k13 55 = .ok (.dup_x1, 1) := by decide +kernel
theorem dgrd_56 : decode own_k13 56 = .ok (.putfield 9, 3) := by decide +kernel
theorem dgrd_59 : decode own_k13 59 = .ok (.areturn, 1) := by decide +kernel
theorem pd__II_I : parseMethodDescriptor "(II)I" = some ⟨[.int, .int], some .int⟩ := by decide +kernel
theorem ef_grd (m : MethodId) (a1 : Addr) : entryFrame m #[(.ref a1), (.int (1 : Int32))] 4 = (mkF m 0 #[own_r a1, .val (.int (1 : Int32)), .unset, .unset] []) := by first | (simp [entryFrame, mkF, argsToLocals, Value.category]; done) | rfl
def Q_grd (Z : State) (a1 de : Addr) (m1 : Int32) (kd : ClassId) (h0 : Heap) (n0 : Nat) (v : Option Value) (h : Heap) (L : List Loc) : Prop := ∃ (br : Addr) (kr : ClassId), v = some (.ref br) ∧ Fr n0 L ∧ Keep h0 h [a1] ∧ n0 ≤ br ∧ h0.size ≤ br ∧ Fld Z h a1 "java/util/AbstractList" "modCount" "I" (.int m1) ∧ Fld Z h a1 "java/util/ArrayList" "elementData" "[Ljava/lang/Object;" (.ref br) ∧ Fld Z h a1 "java/util/ArrayList" "size" "I" (.int (0 : Int32)) ∧ Arv Z h br kr (.object "java/lang/Object") (10 : Int32) [] .null ∧ Ovr Z kr "java/lang/Object" ∧ Exa Z h br "[Ljava/lang/Object;"
theorem rm_grd (l : Launch) (Z : State) (a0 : Array Value) (hw : own_W a0 Z) (ws : List Jvm.Cond) (a1 de : Addr) (m1 : Int32) (kd : ClassId) (h0 : Heap) (n0 : Nat) (Z0 : n0 ≤ h0.size) (SDE : Sta Z h0 "java/util/ArrayList" "DEFAULTCAPACITY_EMPTY_ELEMENTDATA" "[Ljava/lang/Object;" (.ref de)) (E1 : Exa Z h0 a1 "java/util/ArrayList") (F1 : Fld Z h0 a1 "java/util/AbstractList" "modCount" "I" (.int m1)) (F2 : Fld Z h0 a1 "java/util/ArrayList" "elementData" "[Ljava/lang/Object;" (.ref de)) (F3 : Fld Z h0 a1 "java/util/ArrayList" "size" "I" (.int (0 : Int32))) (V0 : Arv Z h0 de kd (.object "java/lang/Object") (0 : Int32) [] .null) (g_a1 : n0 ≤ a1) (ne_a1_de : a1 ≠ de)  :
    own_M l Z h0 ws own_y35 jdk_38_method_6_code 4 (some (.array (.object "java/lang/Object"))) (⟨1, 1, 10, 20⟩ : Room) #[(.ref a1), (.int (1 : Int32))] (Q_grd Z a1 de m1 kd h0 n0) := by
  refine MetFree.of_bodySF (plainFor_of_name pn_ali) hisR ?_
  intro p e s m args below meth c s₁ Bd hml0 hP hK
  obtain ⟨rfl, hZ, hh⟩ := hP
  have hx := Bd.exec
  have hby := Bd.bytes
  have hml : c.maxLocals = 4 := hml0
  have hown : s.vm.findClass "java/util/ArrayList" = some m.cls := findClass_of_methodNamed Bd.named
  have hnm := (name_of_methodNamed Bd.named Bd.method).1
  have X0 : Stand p l e (⟨1, 1, 10, 20⟩ : Room) s m #[(.ref a1), (.int (1 : Int32))] below meth c s₁ [] 0 0 := Stand.of_body Bd
  have e0 : s₁.heap = h0 := by rw [← hh, Bd.state]; rfl
  have N0 := Fr.nil n0
  have pre0 : ∀ t, Steps p.tables e below (s₁.setTop (mkF m 0 #[own_r a1, .val (.int (1 : Int32)), .unset, .unset] [])) t → Steps p.tables e below (s₁.setTop (entryFrame m #[(.ref a1), (.int (1 : Int32))] 4)) t := fun t k => castTop (ef_grd m a1) k
  have K2 : Keep h0 h0 [a1] := Keep.refl h0 [a1]
  have pre3 : own_G p e below s₁ s₁ _ _ := fun t k => pre0 t (by
    refine XS.aloadN X0.here hx rfl (hb hby dgrd_0) rfl rfl ?_
    exact k)
  obtain ⟨T4, X4, e4, st4⟩ := getF X0 hx hZ hown (host := "") (Or.inl (own_h hw 25 rfl)) Via.refl e0 F2 (g := (mkF m 1 #[own_r a1, .val (.int (1 : Int32)), .unset, .unset] [(.ref a1)])) rfl rfl (hb hby dgrd_1)
  obtain ⟨cl5, Ar5, kc5, S5, M5, H5, G5⟩ := id V0
  have pre6 : own_G p e below T4 s₁ _ _ := fun t k => pre3 t (by
    refine st4 _ ?_
    refine X4.arraylength hx (cell := cl5) (by rw [e4]; exact Ar5.1) (State.isArrayOf_alike hZ.alike Ar5.2.1) (g := (mkF m 4 #[own_r a1, .val (.int (1 : Int32)), .unset, .unset] [(.ref de)])) rfl (rest := []) rfl (hb hby dgrd_4) _ ?_
    rw [len_of S5 M5]
    refine XS.istoreN X4.here hx rfl (hb hby dgrd_5) rfl (l' := #[own_r a1, .val (.int (1 : Int32)), .val (.int (0 : Int32)), .unset]) rfl ?_
    refine XS.iloadN X4.here hx rfl (hb hby dgrd_6) rfl ?_
    refine XS.ifNo X4.here hx rfl (hb hby dgrd_7) rfl (XT.i0_gt_f (by decide)) ?_
    refine XS.aloadN X4.here hx rfl (hb hby dgrd_10) rfl rfl ?_
    exact k)
  obtain ⟨T7, X7, e7, st7⟩ := getF X4 hx hZ hown (host := "") (Or.inl (own_h hw 25 rfl)) Via.refl e4 F2 (g := (mkF m 11 #[own_r a1, .val (.int (1 : Int32)), .val (.int (0 : Int32)), .unset] [(.ref a1)])) rfl rfl (hb hby dgrd_11)
  have pre8 : own_G p e below T7 s₁ _ _ := fun t k => pre6 t (by
    refine st7 _ ?_
    exact k)
  obtain ⟨T9, X9, e9, st9⟩ := getS2 X7 hx hZ hown (host := "") (Or.inl (own_h hw 24 rfl)) Via.refl e7 SDE (g := (mkF m 14 #[own_r a1, .val (.int (1 : Int32)), .val (.int (0 : Int32)), .unset] [(.ref de)])) rfl (hb hby dgrd_14)
  have pre10 : own_G p e below T9 s₁ _ _ := fun t k => pre8 t (by
    refine st9 _ ?_
    refine XT.acmpYes X9.here hx rfl (pc0 := 17) (pc' := 45) rfl (hb hby dgrd_17) rfl rfl rfl (XT.aa_eq_t rfl) (by decide) (by decide) ?_
    refine XS.aloadN X9.here hx rfl (hb hby dgrd_45) rfl rfl ?_
    refine XS.bipush X9.here hx rfl (hb hby dgrd_46) ?_
    refine XS.iloadN X9.here hx rfl (hb hby dgrd_48) rfl ?_
    exact k)
  obtain ⟨_, _, ⟨T11, L11, kk11, nn11⟩, -, X11, ⟨Lc11, hQ11, l11, y11, z11⟩, st11⟩ := Jvm.LawKit.callS X9 hx (y := own_y17) hown (mvT hZ (own_h hw 209 rfl)) (mvT hZ (own_h hw 210 rfl)) (mvT hZ (own_h hw 211 rfl)) (mvT hZ (own_h hw 212 rfl)) (by decide) (backOf (W := 1) (rm_max l Z a0 hw [] (10 : Int32) (1 : Int32) h0 n0 Z0 ) hZ (own_h hw 212 rfl) (own_h hw 211 rfl) (by decide) (by decide)) (g := (mkF m 49 #[own_r a1, .val (.int (1 : Int32)), .val (.int (0 : Int32)), .unset] [(.int (1 : Int32)), (.int (10 : Int32)), (.ref a1)])) rfl (by rw [hml]; rfl) (argsL := [(.int (10 : Int32)), (.int (1 : Int32))]) (rest := [(.ref a1)]) (lenOf pd__II_I rfl) rfl (by show 2 * 0 + _ ≤ _; exact Nat.le_of_eq rfl) (hb hby dgrd_49) (fun _ _ => ⟨rfl, e9, (by decide : 0 + 0 ≤ _), (by decide : 0 + 0 ≤ _)⟩)
  dsimp only [Pt.U, Pt.locs, Pt.cells, Pt.slots] at X11 l11 y11 z11 st11 hQ11
  subst l11 y11 z11
  obtain ⟨rfl, N11q, eq11⟩ := hQ11
  have N11 := Fr.app N0 N11q
  have pre12 : own_G p e below T11 s₁ _ _ := fun t k => pre10 t (by
    refine st11 _ ?_
    show Steps p.tables e below (T11.setTop (mkF m 52 #[own_r a1, .val (.int (1 : Int32)), .val (.int (0 : Int32)), .unset] [(.int (own_max (10 : Int32) (1 : Int32))), (.ref a1)])) _
    rw [show own_max (10 : Int32) (1 : Int32) = (10 : Int32) from by decide]
    exact k)
  obtain ⟨T13, h13, k13, X13, e13, E13, A13, EA13, O13, st13⟩ := newRE X11 hx hZ hown (own_h hw 213 rfl) (own_h hw 214 rfl) eq11 (g := (mkF m 52 #[own_r a1, .val (.int (1 : Int32)), .val (.int (0 : Int32)), .unset] [(.int (10 : Int32)), (.ref a1)])) rfl (hb hby dgrd_52) rfl (by decide) (cap := 10) (by decide) (by decide) (by decide) (by decide) (ad := "[Ljava/lang/Object;") (by decide)
  obtain ⟨b13, g13⟩ : ∃ z, z = h0.size := ⟨_, rfl⟩
  rw [← g13] at A13 EA13 st13
  have ne_a1_b13 : a1 ≠ b13 := Nat.ne_of_lt (Nat.lt_of_lt_of_eq E1.lt g13.symm)
  have ne_de_b13 : de ≠ b13 := Nat.ne_of_lt (Nat.lt_of_lt_of_eq V0.lt g13.symm)
  have g_b13 : n0 ≤ b13 := Nat.le_trans Z0 (Nat.le_of_eq g13.symm)
  have sz_b13 : h0.size ≤ b13 := Nat.le_trans K2.1 (Nat.le_of_eq g13.symm)
  have Z13 : n0 ≤ h13.size := Nat.le_trans Z0 E13.1
  have f14_0 := E1.ext E13
  have f14_1 := F1.ext E13
  have f14_2 := F2.ext E13
  have f14_3 := F3.ext E13
  have f14_4 := V0.ext E13
  have f14_5 := SDE.ext E13
  have K15 := K2.ext E13
  have V13 := Arv.new A13 (by decide)
  have pre16 : own_G p e below T13 s₁ _ _ := fun t k => pre12 t (by
    refine st13 _ ?_
    refine XT.dupX1 X13.here hx rfl (hb hby dgrd_55) rfl rfl rfl ?_
    exact k)
  obtain ⟨T17, h17, X17, e17, W17, st17⟩ := putF X13 hx hZ hown (host := "") (Or.inl (own_h hw 25 rfl)) Via.refl e13 f14_2 f14_0 (Or.inl (own_h hw 26 rfl)) (own_h hw 2 rfl) (ty := (.array (.object "java/lang/Object"))) (by decide) rfl rfl (g := (mkF m 56 #[own_r a1, .val (.int (1 : Int32)), .val (.int (0 : Int32)), .unset] [(.ref b13), (.ref a1), (.ref b13)])) rfl rfl (hb hby dgrd_56)
  have F17 := f14_2.same W17
  have N17 := Fr.snoc X17 N11 g_a1
  have f18_0 := f14_0.wr W17
  have f18_1 := f14_1.other W17 (Or.inr (own_sn (own_l23 hw) (own_l26 hw) (by decide)))
  have f18_3 := f14_3.other W17 (Or.inr (own_sn (own_l80 hw) (own_l26 hw) (by decide)))
  have f18_4 := f14_4.other W17 ne_a1_de.symm
  have f18_5 := f14_5.wr W17
  have f18_6 := V13.other W17 ne_a1_b13.symm
  have f18_7 := EA13.wr W17
  have K19 := K15.wr W17 (Or.inl (List.mem_of_getElem? (i := 0) rfl))
  have Z17 : n0 ≤ h17.size := Nat.le_trans Z13 (Keep.of_wr W17).1
  have pre20 : own_G p e below T17 s₁ _ _ := fun t k => pre16 t (by
    refine st17 _ ?_
    exact k)
  obtain ⟨fs, hr, hrun, hended, hW, hsame⟩ := X17.leave (v := some (.ref b13)) (fun h => by rw [Bd.returns] at h; cases h)
  refine ⟨_, _, pre20 _ ?_, hrun, hended, _, _, rfl, ?_, ⟨_, rfl⟩, hW, hsame.mono (by decide) (by decide)⟩
  · show Steps p.tables e below (T17.setTop (mkF m 59 #[own_r a1, .val (.int (1 : Int32)), .val (.int (0 : Int32)), .unset] [(.ref b13)])) _
    jvm_step X17.here [X17.here.top, hx, (hb hby dgrd_59), X17.method', Bd.returns, Value.isRef, FieldType.isReference]
    first | (intro acts; rw [hr _ acts rfl rfl rfl]) | rw [hr _ _ rfl rfl rfl]
    exact Steps.refl _
  · show Q_grd Z a1 de m1 kd h0 n0 _ T17.heap _
    rw [e17]
    exact ⟨b13, k13, rfl, N17, K19, g_b13, sz_b13, f18_1, F17, f18_3, f18_6, O13, f18_7⟩
theorem dgr0_0 : decode own_k32 0 = .ok (.aload_n 0, 1) := by decide +kernel
theorem dgr0_1 : decode own_k32 1 = .ok (.aload_n 0, 1) := by decide +kernel
theorem dgr0_2 : decode own_k32 2 = .ok (.getfield 48, 3) := by decide +kernel
theorem dgr0_5 : decode own_k32 5 = .ok (.iconst 1, 1) := by decide +kernel
theorem dgr0_6 : decode own_k32 6 = .ok (.iadd, 1) := by decide +kernel
theorem dgr0_7 : decode own_k32 7 = .ok (.invokevirtual 69, 3) := by decide +kernel
theorem dgr0_10 : decode own_k32 10 = .ok (.areturn, 1) := by decide +kernel
theorem pd__I__Ljava_lang_Object_ : parseMethodDescriptor "(I)[Ljava/lang/Object;" = some ⟨[.int], some (.array (.object "java/lang/Object"))⟩ := by decide +kernel
theorem ef_gr0 (m : MethodId) (a1 : Addr) : entryFrame m #[(.ref a1)] 1 = (mkF m 0 #[own_r a1] []) := by first | (simp [entryFrame, mkF, argsToLocals, Value.category]; done) | rfl
def Q_gr0 (Z : State) (a1 de : Addr) (m1 : Int32) (kd : ClassId) (h0 : Heap) (n0 : Nat) (v : Option Value) (h : Heap) (L : List Loc) : Prop := ∃ (br : Addr) (kr : ClassId), v = some (.ref br) ∧ Fr n0 L ∧ Keep h0 h [a1] ∧ n0 ≤ br ∧ h0.size ≤ br ∧ Fld Z h a1 "java/util/AbstractList" "modCount" "I" (.int m1) ∧ Fld Z h a1 "java/util/ArrayList" "elementData" "[Ljava/lang/Object;" (.ref br) ∧ Fld Z h a1 "java/util/ArrayList" "size" "I" (.int (0 : Int32)) ∧ Arv Z h br kr (.object "java/lang/Object") (10 : Int32) [] .null ∧ Ovr Z kr "java/lang/Object" ∧ Exa Z h br "[Ljava/lang/Object;"
theorem rm_gr0 (l : Launch) (Z : State) (a0 : Array Value) (hw : own_W a0 Z) (ws : List Jvm.Cond) (a1 de : Addr) (m1 : Int32) (kd : ClassId) (h0 : Heap) (n0 : Nat) (Z0 : n0 ≤ h0.size) (SDE : Sta Z h0 "java/util/ArrayList" "DEFAULTCAPACITY_EMPTY_ELEMENTDATA" "[Ljava/lang/Object;" (.ref de)) (E1 : Exa Z h0 a1 "java/util/ArrayList") (F1 : Fld Z h0 a1 "java/util/AbstractList" "modCount" "I" (.int m1)) (F2 : Fld Z h0 a1 "java/util/ArrayList" "elementData" "[Ljava/lang/Object;" (.ref de)) (F3 : Fld Z h0 a1 "java/util/ArrayList" "size" "I" (.int (0 : Int32))) (V0 : Arv Z h0 de kd (.object "java/lang/Object") (0 : Int32) [] .null) (g_a1 : n0 ≤ a1) (ne_a1_de : a1 ≠ de)  :
    own_M l Z h0 ws own_y36 jdk_38_method_7_code 1 (some (.array (.object "java/lang/Object"))) (⟨2, 1, 10, 36⟩ : Room) #[(.ref a1)] (Q_gr0 Z a1 de m1 kd h0 n0) := by
  refine MetFree.of_bodySF (plainFor_of_name pn_ali) hisR ?_
  intro p e s m args below meth c s₁ Bd hml0 hP hK
  obtain ⟨rfl, hZ, hh⟩ := hP
  have hx := Bd.exec
  have hby := Bd.bytes
  have hml : c.maxLocals = 1 := hml0
  have hown : s.vm.findClass "java/util/ArrayList" = some m.cls := findClass_of_methodNamed Bd.named
  have hnm := (name_of_methodNamed Bd.named Bd.method).1
  have X0 : Stand p l e (⟨2, 1, 10, 36⟩ : Room) s m #[(.ref a1)] below meth c s₁ [] 0 0 := Stand.of_body Bd
  have e0 : s₁.heap = h0 := by rw [← hh, Bd.state]; rfl
  have N0 := Fr.nil n0
  have pre0 : ∀ t, Steps p.tables e below (s₁.setTop (mkF m 0 #[own_r a1] [])) t → Steps p.tables e below (s₁.setTop (entryFrame m #[(.ref a1)] 1)) t := fun t k => castTop (ef_gr0 m a1) k
  have pre2 : own_G p e below s₁ s₁ _ _ := fun t k => pre0 t (by
    refine XS.aloadN X0.here hx rfl (hb hby dgr0_0) rfl rfl ?_
    refine XS.aloadN X0.here hx rfl (hb hby dgr0_1) rfl rfl ?_
    exact k)
  obtain ⟨T3, X3, e3, st3⟩ := getF X0 hx hZ hown (host := "") (Or.inl (own_h hw 79 rfl)) Via.refl e0 F3 (g := (mkF m 2 #[own_r a1] [(.ref a1), (.ref a1)])) rfl rfl (hb hby dgr0_2)
  have pre4 : own_G p e below T3 s₁ _ _ := fun t k => pre2 t (by
    refine st3 _ ?_
    refine XS.iconst X3.here hx rfl (hb hby dgr0_5) ?_
    refine XS.iadd X3.here hx rfl (hb hby dgr0_6) rfl ?_
    show Steps p.tables e below (T3.setTop (mkF m 7 #[own_r a1] [(.int ((0 : Int32) + (1 : Int32))), (.ref a1)])) _
    rw [show ((0 : Int32) + (1 : Int32)) = (1 : Int32) from by decide]
    exact k)
  obtain ⟨cq5, q5a, q5b⟩ := E1.cell
  obtain ⟨_, _, ⟨T5, L5, kk5, nn5⟩, -, X5, ⟨Lc5, hQ5, l5, y5, z5⟩, st5⟩ := X3.privateBack hx (y := own_y35) hown (mvT hZ (own_h hw 204 rfl)) (mvT hZ (own_h hw 205 rfl)) (mvT hZ (own_h hw 207 rfl)) (Cond.privateMethod_at (mvP hZ (own_h hw 206 rfl) (args := #[]))) (mvT hZ (own_h hw 208 rfl)) (by decide) (backOf (W := 0) (rm_grd l Z a0 hw [] a1 de m1 kd h0 n0 Z0 SDE E1 F1 F2 F3 V0 g_a1 ne_a1_de) hZ (own_h hw 208 rfl) (own_h hw 3 rfl) (by decide) (by decide)) (g := (mkF m 7 #[own_r a1] [(.int (1 : Int32)), (.ref a1)])) rfl (by rw [hml]; rfl) (Steps.refl _) (a := a1) (by rw [e3]; exact q5a) q5b (argsL := [(.int (1 : Int32))]) (rest := []) (lenOf pd__I__Ljava_lang_Object_ rfl) rfl (by show 2 * 0 + _ ≤ _; exact Nat.le_of_eq rfl) (hb hby dgr0_7) (fun _ _ => ⟨rfl, e3, (by decide : 0 + 1 ≤ _), (by decide : 0 + 10 ≤ _)⟩)
  dsimp only [Pt.U, Pt.locs, Pt.cells, Pt.slots] at X5 l5 y5 z5 st5 hQ5
  subst l5 y5 z5
  obtain ⟨br5, kr5, rfl, N5q, Kc5, g_br5, sr5, Fm5, Fe5, Fz5, Vr5, Or5, Ea5⟩ := hQ5
  have N5 := Fr.app N0 N5q
  have f6_0 := E1.keep Kc5
  have f6_4 := V0.keep Kc5 (own_nm1 ne_a1_de.symm)
  have f6_5 := own_sta_keep SDE Kc5 (by intro x hx; simp only [List.mem_cons, List.not_mem_nil, or_false] at hx; rcases hx with rfl; exact own_ns_exa E1)
  have Z5 : n0 ≤ T5.heap.size := Nat.le_trans Z0 Kc5.1
  have e5 : T5.heap = T5.heap := rfl
  have pre7 : own_G p e below T5 s₁ _ _ := fun t k => pre4 t (by
    refine st5.trans ?_
    exact k)
  obtain ⟨fs, hr, hrun, hended, hW, hsame⟩ := X5.leave (v := some (.ref br5)) (fun h => by rw [Bd.returns] at h; cases h)
  refine ⟨_, _, pre7 _ ?_, hrun, hended, _, _, rfl, ?_, ⟨_, rfl⟩, hW, hsame.mono (by decide) (by decide)⟩
  · show Steps p.tables e below (T5.setTop (mkF m 10 #[own_r a1] [(.ref br5)])) _
    jvm_step X5.here [X5.here.top, hx, (hb hby dgr0_10), X5.method', Bd.returns, Value.isRef, FieldType.isReference]
    first | (intro acts; rw [hr _ acts rfl rfl rfl]) | rw [hr _ _ rfl rfl rfl]
    exact Steps.refl _
  · show Q_gr0 Z a1 de m1 kd h0 n0 _ T5.heap _
    skip
    exact ⟨br5, kr5, rfl, N5, Kc5, g_br5, sr5, Fm5, Fe5, Fz5, Vr5, Or5, Ea5⟩
theorem own_app (vs : List Value) (a b : Value) : (vs ++ [a]).set vs.length b = vs ++ [b] := by
  induction vs with
  | nil => rfl
  | cons x t ih => simp only [List.cons_append, List.length_cons, List.set_cons_succ, ih]
theorem da3r_0 : decode own_k5 0 = .ok (.iload_n 3, 1) := by decide +kernel
theorem da3r_1 : decode own_k5 1 = .ok (.aload_n 2, 1) := by decide +kernel
theorem da3r_2 : decode own_k5 2 = .ok (.arraylength, 1) := by decide +kernel
theorem da3r_3 : decode own_k5 3 = .ok (.if_icmp .ne 8, 3) := by decide +kernel
theorem da3r_11 : decode own_k5 11 = .ok (.aload_n 2, 1) := by decide +kernel
theorem da3r_12 : decode own_k5 12 = .ok (.iload_n 3, 1) := by decide +kernel
theorem da3r_13 : decode own_k5 13 = .ok (.aload_n 1, 1) := by decide +kernel
theorem da3r_14 : decode own_k5 14 = .ok (.aastore, 1) := by decide +kernel
theorem da3r_15 : decode own_k5 15 = .ok (.aload_n 0, 1) := by decide +kernel
theorem da3r_16 : decode own_k5 16 = .ok (.iload_n 3, 1) := by decide +kernel
theorem da3r_17 : decode own_k5 17 = .ok (.iconst 1, 1) := by decide +kernel
theorem da3r_18 : decode own_k5 18 = .ok (.iadd, 1) := by decide +kernel
theorem da3r_19 : decode own_k5 19 = .ok (.putfield 48, 3) := by decide +kernel
theorem da3r_22 : decode own_k5 22 = .ok (.return_, 1) := by decide +kernel
theorem ef_a3r (m : MethodId) (a1 : Addr) (x1 : Addr) (b1 : Addr) (n : Int32) : entryFrame m #[(.ref a1), (.ref x1), (.ref b1), (.int n)] 4 = (mkF m 0 #[own_r a1, own_r x1, own_r b1, own_i n] []) := by first | (simp [entryFrame, mkF, argsToLocals, Value.category]; done) | rfl
def Q_a3r (Z : State) (a1 x1 b1 : Addr) (m1 n n1 z : Int32) (k1 : ClassId) (xs : List Value) (h0 : Heap) (n0 : Nat) (v : Option Value) (h : Heap) (L : List Loc) : Prop := v = none ∧ Fr n0 L ∧ Keep h0 h [a1, b1] ∧ Fld Z h a1 "java/util/AbstractList" "modCount" "I" (.int m1) ∧ Fld Z h a1 "java/util/ArrayList" "elementData" "[Ljava/lang/Object;" (.ref b1) ∧ Fld Z h a1 "java/util/ArrayList" "size" "I" (.int n1) ∧ Arv Z h b1 k1 (.object "java/lang/Object") z (xs ++ [(Value.ref x1)]) .null
theorem rm_a3r (l : Launch) (Z : State) (a0 : Array Value) (hw : own_W a0 Z) (ws : List Jvm.Cond) (a1 x1 b1 : Addr) (m1 n n1 z : Int32) (k1 : ClassId) (xs : List Value) (h0 : Heap) (n0 : Nat) (Z0 : n0 ≤ h0.size) (E1 : Exa Z h0 a1 "java/util/ArrayList") (F1 : Fld Z h0 a1 "java/util/AbstractList" "modCount" "I" (.int m1)) (F2 : Fld Z h0 a1 "java/util/ArrayList" "elementData" "[Ljava/lang/Object;" (.ref b1)) (F3 : Fld Z h0 a1 "java/util/ArrayList" "size" "I" (.int n)) (V1 : Arv Z h0 b1 k1 (.object "java/lang/Object") z xs .null) (OV1 : Ovr Z k1 "java/lang/Object") (EX : Exa Z h0 x1 "com/example/tributary/tributary/merge/Tree") (g_a1 : n0 ≤ a1) (g_b1 : n0 ≤ b1) (ne_a1_b1 : a1 ≠ b1) (hin : ¬ n < 0 ∧ n < z) (hne : ¬ n = z) (hl : n.toNatClampNeg = xs.length) (hn1 : n + (1 : Int32) = n1)  :
    own_M l Z h0 ws own_y8 jdk_38_method_24_code 4 none (⟨0, 0, 0, 0⟩ : Room) #[(.ref a1), (.ref x1), (.ref b1), (.int n)] (Q_a3r Z a1 x1 b1 m1 n n1 z k1 xs h0 n0) := by
  refine MetFree.of_bodySF (plainFor_of_name pn_ali) hisR ?_
  intro p e s m args below meth c s₁ Bd hml0 hP hK
  obtain ⟨rfl, hZ, hh⟩ := hP
  have hx := Bd.exec
  have hby := Bd.bytes
  have hml : c.maxLocals = 4 := hml0
  have hown : s.vm.findClass "java/util/ArrayList" = some m.cls := findClass_of_methodNamed Bd.named
  have hnm := (name_of_methodNamed Bd.named Bd.method).1
  have X0 : Stand p l e (⟨0, 0, 0, 0⟩ : Room) s m #[(.ref a1), (.ref x1), (.ref b1), (.int n)] below meth c s₁ [] 0 0 := Stand.of_body Bd
  have e0 : s₁.heap = h0 := by rw [← hh, Bd.state]; rfl
  have N0 := Fr.nil n0
  have pre0 : ∀ t, Steps p.tables e below (s₁.setTop (mkF m 0 #[own_r a1, own_r x1, own_r b1, own_i n] [])) t → Steps p.tables e below (s₁.setTop (entryFrame m #[(.ref a1), (.ref x1), (.ref b1), (.int n)] 4)) t := fun t k => castTop (ef_a3r m a1 x1 b1 n) k
  have K2 : Keep h0 h0 [a1, b1] := Keep.refl h0 [a1, b1]
  obtain ⟨cl3, Ar3, kc3, S3, M3, H3, G3⟩ := id V1
  have pre4 : own_G p e below s₁ s₁ _ _ := fun t k => pre0 t (by
    refine XS.iloadN X0.here hx rfl (hb hby da3r_0) rfl ?_
    refine XS.aloadN X0.here hx rfl (hb hby da3r_1) rfl rfl ?_
    refine X0.arraylength hx (cell := cl3) (by rw [e0]; exact Ar3.1) (State.isArrayOf_alike hZ.alike Ar3.2.1) (g := (mkF m 2 #[own_r a1, own_r x1, own_r b1, own_i n] [(.ref b1), (.int n)])) rfl (rest := [(.int n)]) rfl (hb hby da3r_2) _ ?_
    rw [len_of S3 M3]
    refine XS.icmpYes X0.here hx rfl (pc0 := 3) (pc' := 11) rfl (hb hby da3r_3) rfl (XT.ii_ne_t hne) (by decide) (by decide) ?_
    refine XS.aloadN X0.here hx rfl (hb hby da3r_11) rfl rfl ?_
    refine XS.iloadN X0.here hx rfl (hb hby da3r_12) rfl ?_
    refine XS.aloadN X0.here hx rfl (hb hby da3r_13) rfl rfl ?_
    exact k)
  have V5 : Arv Z h0 b1 k1 (.object "java/lang/Object") z (xs ++ [Value.null]) .null := V1.pad (pad_rep xs .null 1)
  obtain ⟨cl6, Ar6, kc6, S6, M6, H6, G6⟩ := id V5
  have hin6 := inb_of S6 (j := n) hin
  obtain ⟨T6, h6, X6, e6, W6, st6⟩ := stR X0 hx hZ e0 Ar6 (j := n) hin6 rfl (Sto.ofV Ar6 kc6 OV1 (Ins.of_exa EX (own_h hw 215 rfl))) (g := (mkF m 14 #[own_r a1, own_r x1, own_r b1, own_i n] [(.ref x1), (.int n), (.ref b1)])) rfl rfl (hb hby da3r_14)
  have V6 : Arv Z h6 b1 k1 (.object "java/lang/Object") z ((xs ++ [Value.null]).set xs.length (.ref x1)) .null := Arv.set Ar6 kc6 S6 M6 H6 G6 (v := (.ref x1)) rfl W6 xs.length hl (by simp)
  have N6 := Fr.snoc X6 N0 g_b1
  have f7_0 := E1.wr W6
  have f7_1 := F1.other W6 (Or.inl ne_a1_b1)
  have f7_2 := F2.other W6 (Or.inl ne_a1_b1)
  have f7_3 := F3.other W6 (Or.inl ne_a1_b1)
  have f7_5 := EX.wr W6
  have K8 := K2.wr W6 (Or.inl (List.mem_of_getElem? (i := 1) rfl))
  have Z6 : n0 ≤ h6.size := Nat.le_trans Z0 (Keep.of_wr W6).1
  rw [own_app] at V6
  have pre9 : own_G p e below T6 s₁ _ _ := fun t k => pre4 t (by
    refine st6 _ ?_
    refine XS.aloadN X6.here hx rfl (hb hby da3r_15) rfl rfl ?_
    refine XS.iloadN X6.here hx rfl (hb hby da3r_16) rfl ?_
    refine XS.iconst X6.here hx rfl (hb hby da3r_17) ?_
    refine XS.iadd X6.here hx rfl (hb hby da3r_18) rfl ?_
    show Steps p.tables e below (T6.setTop (mkF m 19 #[own_r a1, own_r x1, own_r b1, own_i n] [(.int (n + (1 : Int32))), (.ref a1)])) _
    rw [hn1]
    exact k)
  obtain ⟨T10, h10, X10, e10, W10, st10⟩ := putF X6 hx hZ hown (host := "") (Or.inl (own_h hw 79 rfl)) Via.refl e6 f7_3 f7_0 (Or.inl (own_h hw 80 rfl)) (own_h hw 2 rfl) (ty := .int) (by decide) rfl rfl (g := (mkF m 19 #[own_r a1, own_r x1, own_r b1, own_i n] [(.int n1), (.ref a1)])) rfl rfl (hb hby da3r_19)
  have F10 := f7_3.same W10
  have N10 := Fr.snoc X10 N6 g_a1
  have f11_0 := f7_0.wr W10
  have f11_1 := f7_1.other W10 (Or.inr (own_sn (own_l23 hw) (own_l80 hw) (by decide)))
  have f11_2 := f7_2.other W10 (Or.inr (own_sn (own_l26 hw) (own_l80 hw) (by decide)))
  have f11_4 := f7_5.wr W10
  have f11_5 := V6.other W10 ne_a1_b1.symm
  have K12 := K8.wr W10 (Or.inl (List.mem_of_getElem? (i := 0) rfl))
  have Z10 : n0 ≤ h10.size := Nat.le_trans Z6 (Keep.of_wr W10).1
  have pre13 : own_G p e below T10 s₁ _ _ := fun t k => pre9 t (by
    refine st10 _ ?_
    exact k)
  obtain ⟨fs, hr, hrun, hended, hW, hsame⟩ := X10.leave (v := none) (fun _ => rfl)
  refine ⟨_, _, pre13 _ ?_, hrun, hended, _, _, rfl, ?_, ⟨_, rfl⟩, hW, hsame.mono (by decide) (by decide)⟩
  · exact X10.returnOut hx Bd.returns (hb hby da3r_22) hr
  · show Q_a3r Z a1 x1 b1 m1 n n1 z k1 xs h0 n0 _ T10.heap _
    rw [e10]
    exact ⟨rfl, N10, K12, f11_1, f11_2, F10, f11_5⟩
theorem dadr_0 : decode own_k4 0 = .ok (.aload_n 0, 1) := by decide +kernel
theorem dadr_1 : decode own_k4 1 = .ok (.dup, 1) := by decide +kernel
theorem dadr_2 : decode own_k4 2 = .ok (.getfield 63, 3) := by decide +kernel
theorem dadr_5 : decode own_k4 5 = .ok (.iconst 1, 1) := by decide +kernel
theorem dadr_6 : decode own_k4 6 = .ok (.iadd, 1) := by decide +kernel
theorem dadr_7 : decode own_k4 7 = .ok (.putfield 63, 3) := by decide +kernel
theorem dadr_10 : decode own_k4 10 = .ok (.aload_n 0, 1) := by decide +kernel
theorem dadr_11 : decode own_k4 11 = .ok (.aload_n 1, 1) := by decide +kernel
theorem dadr_12 : decode own_k4 12 = .ok (.aload_n 0, 1) := by decide +kernel
theorem dadr_13 : decode own_k4 13 = .ok (.getfield 9, 3) := by decide +kernel
theorem dadr_16 : decode own_k4 16 = .ok (.aload_n 0, 1) := by decide +kernel
theorem dadr_17 : decode own_k4 17 = .ok (.getfield 48, 3) := by decide +kernel
theorem dadr_20 : decode own_k4 20 = .ok (.invokevirtual 131, 3) := by decide +kernel
theorem dadr_23 : decode own_k4 23 = .ok (.iconst 1, 1) := by decide +kernel
theorem dadr_24 : decode own_k4 24 = .ok (.ireturn, 1) := by decide +kernel
theorem pd__Ljava_lang_Object__Ljava_lang_Object_I_V : parseMethodDescriptor "(Ljava/lang/Object;[Ljava/lang/Object;I)V" = some ⟨[(.object "java/lang/Object"), (.array (.object "java/lang/Object")), .int], none⟩ := by decide +kernel
theorem ef_adr (m : MethodId) (a1 : Addr) (x1 : Addr) : entryFrame m #[(.ref a1), (.ref x1)] 2 = (mkF m 0 #[own_r a1, own_r x1] []) := by first | (simp [entryFrame, mkF, argsToLocals, Value.category]; done) | rfl
def Q_adr (Z : State) (a1 x1 b1 : Addr) (m1 n n1 z : Int32) (k1 : ClassId) (xs : List Value) (h0 : Heap) (n0 : Nat) (v : Option Value) (h : Heap) (L : List Loc) : Prop := v = some (.int 1) ∧ Fr n0 L ∧ Keep h0 h [a1, b1] ∧ Fld Z h a1 "java/util/AbstractList" "modCount" "I" (.int (m1 + (1 : Int32))) ∧ Fld Z h a1 "java/util/ArrayList" "elementData" "[Ljava/lang/Object;" (.ref b1) ∧ Fld Z h a1 "java/util/ArrayList" "size" "I" (.int n1) ∧ Arv Z h b1 k1 (.object "java/lang/Object") z (xs ++ [(Value.ref x1)]) .null
theorem rm_adr (l : Launch) (Z : State) (a0 : Array Value) (hw : own_W a0 Z) (ws : List Jvm.Cond) (a1 x1 b1 : Addr) (m1 n n1 z : Int32) (k1 : ClassId) (xs : List Value) (h0 : Heap) (n0 : Nat) (Z0 : n0 ≤ h0.size) (E1 : Exa Z h0 a1 "java/util/ArrayList") (F1 : Fld Z h0 a1 "java/util/AbstractList" "modCount" "I" (.int m1)) (F2 : Fld Z h0 a1 "java/util/ArrayList" "elementData" "[Ljava/lang/Object;" (.ref b1)) (F3 : Fld Z h0 a1 "java/util/ArrayList" "size" "I" (.int n)) (V1 : Arv Z h0 b1 k1 (.object "java/lang/Object") z xs .null) (OV1 : Ovr Z k1 "java/lang/Object") (EX : Exa Z h0 x1 "com/example/tributary/tributary/merge/Tree") (g_a1 : n0 ≤ a1) (g_b1 : n0 ≤ b1) (ne_a1_b1 : a1 ≠ b1) (hin : ¬ n < 0 ∧ n < z) (hne : ¬ n = z) (hl : n.toNatClampNeg = xs.length) (hn1 : n + (1 : Int32) = n1)  :
    own_M l Z h0 ws own_y1 jdk_38_method_25_code 2 (some .boolean) (⟨1, 0, 0, 18⟩ : Room) #[(.ref a1), (.ref x1)] (Q_adr Z a1 x1 b1 m1 n n1 z k1 xs h0 n0) := by
  refine MetFree.of_bodySF (plainFor_of_name pn_ali) hisR ?_
  intro p e s m args below meth c s₁ Bd hml0 hP hK
  obtain ⟨rfl, hZ, hh⟩ := hP
  have hx := Bd.exec
  have hby := Bd.bytes
  have hml : c.maxLocals = 2 := hml0
  have hown : s.vm.findClass "java/util/ArrayList" = some m.cls := findClass_of_methodNamed Bd.named
  have hnm := (name_of_methodNamed Bd.named Bd.method).1
  have X0 : Stand p l e (⟨1, 0, 0, 18⟩ : Room) s m #[(.ref a1), (.ref x1)] below meth c s₁ [] 0 0 := Stand.of_body Bd
  have e0 : s₁.heap = h0 := by rw [← hh, Bd.state]; rfl
  have N0 := Fr.nil n0
  have pre0 : ∀ t, Steps p.tables e below (s₁.setTop (mkF m 0 #[own_r a1, own_r x1] [])) t → Steps p.tables e below (s₁.setTop (entryFrame m #[(.ref a1), (.ref x1)] 2)) t := fun t k => castTop (ef_adr m a1 x1) k
  have K2 : Keep h0 h0 [a1, b1] := Keep.refl h0 [a1, b1]
  have pre3 : own_G p e below s₁ s₁ _ _ := fun t k => pre0 t (by
    refine XS.aloadN X0.here hx rfl (hb hby dadr_0) rfl rfl ?_
    refine XS.dup X0.here hx rfl (hb hby dadr_1) rfl rfl ?_
    exact k)
  obtain ⟨T4, X4, e4, st4⟩ := getF X0 hx hZ hown (host := "") (Or.inl (own_h hw 193 rfl)) (Via.of (own_h hw 167 rfl)) e0 F1 (g := (mkF m 2 #[own_r a1, own_r x1] [(.ref a1), (.ref a1)])) rfl rfl (hb hby dadr_2)
  have pre5 : own_G p e below T4 s₁ _ _ := fun t k => pre3 t (by
    refine st4 _ ?_
    refine XS.iconst X4.here hx rfl (hb hby dadr_5) ?_
    refine XS.iadd X4.here hx rfl (hb hby dadr_6) rfl ?_
    exact k)
  obtain ⟨T6, h6, X6, e6, W6, st6⟩ := putF X4 hx hZ hown (host := "") (Or.inl (own_h hw 193 rfl)) (Via.of (own_h hw 167 rfl)) e4 F1 E1 (Or.inl (own_h hw 23 rfl)) (own_h hw 2 rfl) (ty := .int) (by decide) rfl rfl (g := (mkF m 7 #[own_r a1, own_r x1] [(.int (m1 + (1 : Int32))), (.ref a1)])) rfl rfl (hb hby dadr_7)
  have F6 := F1.same W6
  have N6 := Fr.snoc X6 N0 g_a1
  have f7_0 := E1.wr W6
  have f7_2 := F2.other W6 (Or.inr (own_sn (own_l26 hw) (own_l23 hw) (by decide)))
  have f7_3 := F3.other W6 (Or.inr (own_sn (own_l80 hw) (own_l23 hw) (by decide)))
  have f7_4 := V1.other W6 ne_a1_b1.symm
  have f7_5 := EX.wr W6
  have K8 := K2.wr W6 (Or.inl (List.mem_of_getElem? (i := 0) rfl))
  have Z6 : n0 ≤ h6.size := Nat.le_trans Z0 (Keep.of_wr W6).1
  have pre9 : own_G p e below T6 s₁ _ _ := fun t k => pre5 t (by
    refine st6 _ ?_
    refine XS.aloadN X6.here hx rfl (hb hby dadr_10) rfl rfl ?_
    refine XS.aloadN X6.here hx rfl (hb hby dadr_11) rfl rfl ?_
    refine XS.aloadN X6.here hx rfl (hb hby dadr_12) rfl rfl ?_
    exact k)
  obtain ⟨T10, X10, e10, st10⟩ := getF X6 hx hZ hown (host := "") (Or.inl (own_h hw 25 rfl)) Via.refl e6 f7_2 (g := (mkF m 13 #[own_r a1, own_r x1] [(.ref a1), (.ref x1), (.ref a1)])) rfl rfl (hb hby dadr_13)
  have pre11 : own_G p e below T10 s₁ _ _ := fun t k => pre9 t (by
    refine st10 _ ?_
    refine XS.aloadN X10.here hx rfl (hb hby dadr_16) rfl rfl ?_
    exact k)
  obtain ⟨T12, X12, e12, st12⟩ := getF X10 hx hZ hown (host := "") (Or.inl (own_h hw 79 rfl)) Via.refl e10 f7_3 (g := (mkF m 17 #[own_r a1, own_r x1] [(.ref a1), (.ref b1), (.ref x1), (.ref a1)])) rfl rfl (hb hby dadr_17)
  have pre13 : own_G p e below T12 s₁ _ _ := fun t k => pre11 t (by
    refine st12 _ ?_
    exact k)
  obtain ⟨cq14, q14a, q14b⟩ := f7_0.cell
  obtain ⟨_, _, ⟨T14, L14, kk14, nn14⟩, -, X14, ⟨Lc14, hQ14, l14, y14, z14⟩, st14⟩ := X12.privateBack hx (y := own_y8) hown (mvT hZ (own_h hw 194 rfl)) (mvT hZ (own_h hw 195 rfl)) (mvT hZ (own_h hw 197 rfl)) (Cond.privateMethod_at (mvP hZ (own_h hw 196 rfl) (args := #[]))) (mvT hZ (own_h hw 198 rfl)) (by decide) (backOf (W := 0) (rm_a3r l Z a0 hw [] a1 x1 b1 (m1 + (1 : Int32)) n n1 z k1 xs h6 n0 Z6 f7_0 F6 f7_2 f7_3 f7_4 OV1 f7_5 g_a1 g_b1 ne_a1_b1 hin hne hl hn1) hZ (own_h hw 198 rfl) (own_h hw 3 rfl) (by decide) (by decide)) (g := (mkF m 20 #[own_r a1, own_r x1] [(.int n), (.ref b1), (.ref x1), (.ref a1)])) rfl (by rw [hml]; rfl) (Steps.refl _) (a := a1) (by rw [e12]; exact q14a) q14b (argsL := [(.ref x1), (.ref b1), (.int n)]) (rest := []) (lenOf pd__Ljava_lang_Object__Ljava_lang_Object_I_V rfl) rfl (by show 2 * 0 + _ ≤ _; exact Nat.le_of_eq rfl) (hb hby dadr_20) (fun _ _ => ⟨rfl, e12, (by decide : 0 + 0 ≤ _), (by decide : 0 + 0 ≤ _)⟩)
  dsimp only [Pt.U, Pt.locs, Pt.cells, Pt.slots] at X14 l14 y14 z14 st14 hQ14
  subst l14 y14 z14
  obtain ⟨rfl, N14q, Kc14, Fm14, Fe14, Fz14, Va14⟩ := hQ14
  have N14 := Fr.app N6 N14q
  have f15_0 := f7_0.keep Kc14
  have f15_4 := f7_5.keep Kc14
  have K16 := K8.trans Kc14 (by intro x hx; simp only [List.mem_cons, List.not_mem_nil, or_false] at hx; rcases hx with rfl | rfl; exact (Or.inl (List.mem_of_getElem? (i := 0) rfl)); exact (Or.inl (List.mem_of_getElem? (i := 1) rfl)))
  have Z14 : n0 ≤ T14.heap.size := Nat.le_trans Z6 Kc14.1
  have e14 : T14.heap = T14.heap := rfl
  have pre17 : own_G p e below T14 s₁ _ _ := fun t k => pre13 t (by
    refine st14.trans ?_
    refine XS.iconst X14.here hx rfl (hb hby dadr_23) ?_
    exact k)
  obtain ⟨fs, hr, hrun, hended, hW, hsame⟩ := X14.leave (v := some (.int (1 : Int32))) (fun h => by rw [Bd.returns] at h; cases h)
  refine ⟨_, _, pre17 _ ?_, hrun, hended, _, _, rfl, ?_, ⟨_, rfl⟩, hW, hsame.mono (by decide) (by decide)⟩
  · exact retN X14 hx (t := .boolean) Bd.returns (by simp) (hb hby dadr_24) hr
  · show Q_adr Z a1 x1 b1 m1 n n1 z k1 xs h0 n0 _ T14.heap _
    skip
    exact ⟨rfl, N14, K16, Fm14, Fe14, Fz14, Va14⟩
theorem da3g_0 : decode own_k5 0 = .ok (.iload_n 3, 1) := by decide +kernel
theorem da3g_1 : decode own_k5 1 = .ok (.aload_n 2, 1) := by decide +kernel
theorem da3g_2 : decode own_k5 2 = .ok (.arraylength, 1) := by decide +kernel
theorem da3g_3 : decode own_k5 3 = .ok (.if_icmp .ne 8, 3) := by decide +kernel
theorem da3g_6 : decode own_k5 6 = .ok (.aload_n 0, 1) := by decide +kernel
theorem da3g_7 : decode own_k5 7 = .ok (.invokevirtual 129, 3) := by decide +kernel
theorem da3g_10 : decode own_k5 10 = .ok (.astore_n 2, 1) := by decide +kernel
theorem da3g_11 : decode own_k5 11 = .ok (.aload_n 2, 1) := by decide +kernel
theorem da3g_12 : decode own_k5 12 = .ok (.iload_n 3, 1) := by decide +kernel
theorem da3g_13 : decode own_k5 13 = .ok (.aload_n 1, 1) := by decide +kernel
theorem da3g_14 : decode own_k5 14 = .ok (.aastore, 1) := by decide +kernel
theorem da3g_15 : decode own_k5 15 = .ok (.aload_n 0, 1) := by decide +kernel
theorem da3g_16 : decode own_k5 16 = .ok (.iload_n 3, 1) := by decide +kernel
theorem da3g_17 : decode own_k5 17 = .ok (.iconst 1, 1) := by decide +kernel
theorem da3g_18 : decode own_k5 18 = .ok (.iadd, 1) := by decide +kernel
theorem da3g_19 : decode own_k5 19 = .ok (.putfield 48, 3) := by decide +kernel
theorem da3g_22 : decode own_k5 22 = .ok (.return_, 1) := by decide +kernel
theorem pd____Ljava_lang_Object_ : parseMethodDescriptor "()[Ljava/lang/Object;" = some ⟨[], some (.array (.object "java/lang/Object"))⟩ := by decide +kernel
theorem ef_a3g (m : MethodId) (a1 : Addr) (x1 : Addr) (de : Addr) : entryFrame m #[(.ref a1), (.ref x1), (.ref de), (.int (0 : Int32))] 4 = (mkF m 0 #[own_r a1, own_r x1, own_r de, .val (.int (0 : Int32))] []) := by first | (simp [entryFrame, mkF, argsToLocals, Value.category]; done) | rfl
def Q_a3g (Z : State) (a1 x1 de : Addr) (m1 : Int32) (kd : ClassId) (h0 : Heap) (n0 : Nat) (v : Option Value) (h : Heap) (L : List Loc) : Prop := ∃ (br : Addr) (kr : ClassId), v = none ∧ Fr n0 L ∧ Keep h0 h [a1] ∧ n0 ≤ br ∧ h0.size ≤ br ∧ Fld Z h a1 "java/util/AbstractList" "modCount" "I" (.int m1) ∧ Fld Z h a1 "java/util/ArrayList" "elementData" "[Ljava/lang/Object;" (.ref br) ∧ Fld Z h a1 "java/util/ArrayList" "size" "I" (.int (1 : Int32)) ∧ Arv Z h br kr (.object "java/lang/Object") (10 : Int32) [(.ref x1)] .null ∧ Ovr Z kr "java/lang/Object" ∧ Exa Z h br "[Ljava/lang/Object;"
theorem rm_a3g (l : Launch) (Z : State) (a0 : Array Value) (hw : own_W a0 Z) (ws : List Jvm.Cond) (a1 x1 de : Addr) (m1 : Int32) (kd : ClassId) (h0 : Heap) (n0 : Nat) (Z0 : n0 ≤ h0.size) (SDE : Sta Z h0 "java/util/ArrayList" "DEFAULTCAPACITY_EMPTY_ELEMENTDATA" "[Ljava/lang/Object;" (.ref de)) (E1 : Exa Z h0 a1 "java/util/ArrayList") (F1 : Fld Z h0 a1 "java/util/AbstractList" "modCount" "I" (.int m1)) (F2 : Fld Z h0 a1 "java/util/ArrayList" "elementData" "[Ljava/lang/Object;" (.ref de)) (F3 : Fld Z h0 a1 "java/util/ArrayList" "size" "I" (.int (0 : Int32))) (EX : Exa Z h0 x1 "com/example/tributary/tributary/merge/Tree") (V0 : Arv Z h0 de kd (.object "java/lang/Object") (0 : Int32) [] .null) (g_a1 : n0 ≤ a1) (ne_a1_de : a1 ≠ de)  :
    own_M l Z h0 ws own_y8 jdk_38_method_24_code 4 none (⟨3, 1, 10, 60⟩ : Room) #[(.ref a1), (.ref x1), (.ref de), (.int (0 : Int32))] (Q_a3g Z a1 x1 de m1 kd h0 n0) := by
  refine MetFree.of_bodySF (plainFor_of_name pn_ali) hisR ?_
  intro p e s m args below meth c s₁ Bd hml0 hP hK
  obtain ⟨rfl, hZ, hh⟩ := hP
  have hx := Bd.exec
  have hby := Bd.bytes
  have hml : c.maxLocals = 4 := hml0
  have hown : s.vm.findClass "java/util/ArrayList" = some m.cls := findClass_of_methodNamed Bd.named
  have hnm := (name_of_methodNamed Bd.named Bd.method).1
  have X0 : Stand p l e (⟨3, 1, 10, 60⟩ : Room) s m #[(.ref a1), (.ref x1), (.ref de), (.int (0 : Int32))] below meth c s₁ [] 0 0 := Stand.of_body Bd
  have e0 : s₁.heap = h0 := by rw [← hh, Bd.state]; rfl
  have N0 := Fr.nil n0
  have pre0 : ∀ t, Steps p.tables e below (s₁.setTop (mkF m 0 #[own_r a1, own_r x1, own_r de, .val (.int (0 : Int32))] [])) t → Steps p.tables e below (s₁.setTop (entryFrame m #[(.ref a1), (.ref x1), (.ref de), (.int (0 : Int32))] 4)) t := fun t k => castTop (ef_a3g m a1 x1 de) k
  have K2 : Keep h0 h0 [a1] := Keep.refl h0 [a1]
  obtain ⟨cl3, Ar3, kc3, S3, M3, H3, G3⟩ := id V0
  have pre4 : own_G p e below s₁ s₁ _ _ := fun t k => pre0 t (by
    refine XS.iloadN X0.here hx rfl (hb hby da3g_0) rfl ?_
    refine XS.aloadN X0.here hx rfl (hb hby da3g_1) rfl rfl ?_
    refine X0.arraylength hx (cell := cl3) (by rw [e0]; exact Ar3.1) (State.isArrayOf_alike hZ.alike Ar3.2.1) (g := (mkF m 2 #[own_r a1, own_r x1, own_r de, .val (.int (0 : Int32))] [(.ref de), (.int (0 : Int32))])) rfl (rest := [(.int (0 : Int32))]) rfl (hb hby da3g_2) _ ?_
    rw [len_of S3 M3]
    refine XS.icmpNo X0.here hx rfl (hb hby da3g_3) rfl (XT.ii_ne_f rfl) ?_
    refine XS.aloadN X0.here hx rfl (hb hby da3g_6) rfl rfl ?_
    exact k)
  obtain ⟨cq5, q5a, q5b⟩ := E1.cell
  obtain ⟨_, _, ⟨T5, L5, kk5, nn5⟩, -, X5, ⟨Lc5, hQ5, l5, y5, z5⟩, st5⟩ := X0.privateBack hx (y := own_y36) hown (mvT hZ (own_h hw 199 rfl)) (mvT hZ (own_h hw 200 rfl)) (mvT hZ (own_h hw 202 rfl)) (Cond.privateMethod_at (mvP hZ (own_h hw 201 rfl) (args := #[]))) (mvT hZ (own_h hw 203 rfl)) (by decide) (backOf (W := 0) (rm_gr0 l Z a0 hw [] a1 de m1 kd h0 n0 Z0 SDE E1 F1 F2 F3 V0 g_a1 ne_a1_de) hZ (own_h hw 203 rfl) (own_h hw 3 rfl) (by decide) (by decide)) (g := (mkF m 7 #[own_r a1, own_r x1, own_r de, .val (.int (0 : Int32))] [(.ref a1)])) rfl (by rw [hml]; rfl) (Steps.refl _) (a := a1) (by rw [e0]; exact q5a) q5b (argsL := []) (rest := []) (lenOf pd____Ljava_lang_Object_ rfl) rfl (by show 2 * 0 + _ ≤ _; exact Nat.le_of_eq rfl) (hb hby da3g_7) (fun _ _ => ⟨rfl, e0, (by decide : 0 + 1 ≤ _), (by decide : 0 + 10 ≤ _)⟩)
  dsimp only [Pt.U, Pt.locs, Pt.cells, Pt.slots] at X5 l5 y5 z5 st5 hQ5
  subst l5 y5 z5
  obtain ⟨br5, kr5, rfl, N5q, Kc5, g_br5, sr5, Fm5, Fe5, Fz5, Vr5, Or5, Ea5⟩ := hQ5
  have N5 := Fr.app N0 N5q
  have f6_0 := E1.keep Kc5
  have f6_4 := V0.keep Kc5 (own_nm1 ne_a1_de.symm)
  have f6_5 := own_sta_keep SDE Kc5 (by intro x hx; simp only [List.mem_cons, List.not_mem_nil, or_false] at hx; rcases hx with rfl; exact own_ns_exa E1)
  have f6_6 := EX.keep Kc5
  have K7 := K2.trans Kc5 (fun x hx => by cases List.mem_singleton.mp hx; exact (Or.inl (List.mem_of_getElem? (i := 0) rfl)))
  have Z5 : n0 ≤ T5.heap.size := Nat.le_trans Z0 Kc5.1
  have e5 : T5.heap = T5.heap := rfl
  have ne_a1_br5 : a1 ≠ br5 := Nat.ne_of_lt (Nat.lt_of_lt_of_le E1.lt sr5)
  have ne_de_br5 : de ≠ br5 := Nat.ne_of_lt (Nat.lt_of_lt_of_le V0.lt sr5)
  have ne_x1_br5 : x1 ≠ br5 := Nat.ne_of_lt (Nat.lt_of_lt_of_le EX.lt sr5)
  have sz_br5 : h0.size ≤ br5 := Nat.le_trans K2.1 sr5
  have pre8 : own_G p e below T5 s₁ _ _ := fun t k => pre4 t (by
    refine st5.trans ?_
    refine XS.astoreN X5.here hx rfl (hb hby da3g_10) rfl rfl (l' := #[own_r a1, own_r x1, own_r br5, .val (.int (0 : Int32))]) rfl ?_
    refine XS.aloadN X5.here hx rfl (hb hby da3g_11) rfl rfl ?_
    refine XS.iloadN X5.here hx rfl (hb hby da3g_12) rfl ?_
    refine XS.aloadN X5.here hx rfl (hb hby da3g_13) rfl rfl ?_
    exact k)
  have V9 : Arv Z T5.heap br5 kr5 (.object "java/lang/Object") (10 : Int32) [Value.null] .null := Vr5.pad (pad_rep [] .null 1)
  obtain ⟨cl10, Ar10, kc10, S10, M10, H10, G10⟩ := id V9
  have hin10 := inb_of S10 (j := (0 : Int32)) (by decide)
  obtain ⟨T10, h10, X10, e10, W10, st10⟩ := stR X5 hx hZ e5 Ar10 (j := (0 : Int32)) hin10 rfl (Sto.ofV Ar10 kc10 Or5 (Ins.of_exa f6_6 (own_h hw 215 rfl))) (g := (mkF m 14 #[own_r a1, own_r x1, own_r br5, .val (.int (0 : Int32))] [(.ref x1), (.int (0 : Int32)), (.ref br5)])) rfl rfl (hb hby da3g_14)
  have V10 : Arv Z h10 br5 kr5 (.object "java/lang/Object") (10 : Int32) [(.ref x1)] .null := Arv.set Ar10 kc10 S10 M10 H10 G10 (v := (.ref x1)) rfl W10 0 (by decide) (by simp)
  have N10 := Fr.snoc X10 N5 g_br5
  have f11_0 := f6_0.wr W10
  have f11_1 := f6_4.other W10 ne_de_br5
  have f11_2 := f6_5.wr W10
  have f11_3 := f6_6.wr W10
  have f11_4 := Fm5.other W10 (Or.inl ne_a1_br5)
  have f11_5 := Fe5.other W10 (Or.inl ne_a1_br5)
  have f11_6 := Fz5.other W10 (Or.inl ne_a1_br5)
  have f11_8 := Ea5.wr W10
  have K12 := K7.wr W10 (Or.inr sz_br5)
  have Z10 : n0 ≤ h10.size := Nat.le_trans Z5 (Keep.of_wr W10).1
  have pre13 : own_G p e below T10 s₁ _ _ := fun t k => pre8 t (by
    refine st10 _ ?_
    refine XS.aloadN X10.here hx rfl (hb hby da3g_15) rfl rfl ?_
    refine XS.iloadN X10.here hx rfl (hb hby da3g_16) rfl ?_
    refine XS.iconst X10.here hx rfl (hb hby da3g_17) ?_
    refine XS.iadd X10.here hx rfl (hb hby da3g_18) rfl ?_
    show Steps p.tables e below (T10.setTop (mkF m 19 #[own_r a1, own_r x1, own_r br5, .val (.int (0 : Int32))] [(.int ((0 : Int32) + (1 : Int32))), (.ref a1)])) _
    rw [show ((0 : Int32) + (1 : Int32)) = (1 : Int32) from by decide]
    exact k)
  obtain ⟨T14, h14, X14, e14, W14, st14⟩ := putF X10 hx hZ hown (host := "") (Or.inl (own_h hw 79 rfl)) Via.refl e10 f11_6 f11_0 (Or.inl (own_h hw 80 rfl)) (own_h hw 2 rfl) (ty := .int) (by decide) rfl rfl (g := (mkF m 19 #[own_r a1, own_r x1, own_r br5, .val (.int (0 : Int32))] [(.int (1 : Int32)), (.ref a1)])) rfl rfl (hb hby da3g_19)
  have F14 := f11_6.same W14
  have N14 := Fr.snoc X14 N10 g_a1
  have f15_0 := f11_0.wr W14
  have f15_1 := f11_1.other W14 ne_a1_de.symm
  have f15_2 := f11_2.wr W14
  have f15_3 := f11_3.wr W14
  have f15_4 := f11_4.other W14 (Or.inr (own_sn (own_l23 hw) (own_l80 hw) (by decide)))
  have f15_5 := f11_5.other W14 (Or.inr (own_sn (own_l26 hw) (own_l80 hw) (by decide)))
  have f15_7 := f11_8.wr W14
  have f15_8 := V10.other W14 ne_a1_br5.symm
  have K16 := K12.wr W14 (Or.inl (List.mem_of_getElem? (i := 0) rfl))
  have Z14 : n0 ≤ h14.size := Nat.le_trans Z10 (Keep.of_wr W14).1
  have pre17 : own_G p e below T14 s₁ _ _ := fun t k => pre13 t (by
    refine st14 _ ?_
    exact k)
  obtain ⟨fs, hr, hrun, hended, hW, hsame⟩ := X14.leave (v := none) (fun _ => rfl)
  refine ⟨_, _, pre17 _ ?_, hrun, hended, _, _, rfl, ?_, ⟨_, rfl⟩, hW, hsame.mono (by decide) (by decide)⟩
  · exact X14.returnOut hx Bd.returns (hb hby da3g_22) hr
  · show Q_a3g Z a1 x1 de m1 kd h0 n0 _ T14.heap _
    rw [e14]
    exact ⟨br5, kr5, rfl, N14, K16, g_br5, sz_br5, f15_4, f15_5, F14, f15_8, Or5, f15_7⟩
theorem dadg_0 : decode own_k4 0 = .ok (.aload_n 0, 1) := by decide +kernel
theorem dadg_1 : decode own_k4 1 = .ok (.dup, 1) := by decide +kernel
theorem dadg_2 : decode own_k4 2 = .ok (.getfield 63, 3) := by decide +kernel
theorem dadg_5 : decode own_k4 5 = .ok (.iconst 1, 1) := by decide +kernel
theorem dadg_6 : decode own_k4 6 = .ok (.iadd, 1) := by decide +kernel
theorem dadg_7 : decode own_k4 7 = .ok (.putfield 63, 3) := by decide +kernel
theorem dadg_10 : decode own_k4 10 = .ok (.aload_n 0, 1) := by decide +kernel
theorem dadg_11 : decode own_k4 11 = .ok (.aload_n 1, 1) := by decide +kernel
theorem dadg_12 : decode own_k4 12 = .ok (.aload_n 0, 1) := by decide +kernel
theorem dadg_13 : decode own_k4 13 = .ok (.getfield 9, 3) := by decide +kernel
theorem dadg_16 : decode own_k4 16 = .ok (.aload_n 0, 1) := by decide +kernel
theorem dadg_17 : decode own_k4 17 = .ok (.getfield 48, 3) := by decide +kernel
theorem dadg_20 : decode own_k4 20 = .ok (.invokevirtual 131, 3) := by decide +kernel
theorem dadg_23 : decode own_k4 23 = .ok (.iconst 1, 1) := by decide +kernel
theorem dadg_24 : decode own_k4 24 = .ok (.ireturn, 1) := by decide +kernel
theorem ef_adg (m : MethodId) (a1 : Addr) (x1 : Addr) : entryFrame m #[(.ref a1), (.ref x1)] 2 = (mkF m 0 #[own_r a1, own_r x1] []) := by first | (simp [entryFrame, mkF, argsToLocals, Value.category]; done) | rfl
def Q_adg (Z : State) (a1 x1 de : Addr) (m1 : Int32) (kd : ClassId) (h0 : Heap) (n0 : Nat) (v : Option Value) (h : Heap) (L : List Loc) : Prop := ∃ (br : Addr) (kr : ClassId), v = some (.int 1) ∧ Fr n0 L ∧ Keep h0 h [a1] ∧ n0 ≤ br ∧ h0.size ≤ br ∧ Fld Z h a1 "java/util/AbstractList" "modCount" "I" (.int (m1 + (1 : Int32))) ∧ Fld Z h a1 "java/util/ArrayList" "elementData" "[Ljava/lang/Object;" (.ref br) ∧ Fld Z h a1 "java/util/ArrayList" "size" "I" (.int (1 : Int32)) ∧ Arv Z h br kr (.object "java/lang/Object") (10 : Int32) [(.ref x1)] .null ∧ Ovr Z kr "java/lang/Object" ∧ Exa Z h br "[Ljava/lang/Object;"
theorem rm_adg (l : Launch) (Z : State) (a0 : Array Value) (hw : own_W a0 Z) (ws : List Jvm.Cond) (a1 x1 de : Addr) (m1 : Int32) (kd : ClassId) (h0 : Heap) (n0 : Nat) (Z0 : n0 ≤ h0.size) (SDE : Sta Z h0 "java/util/ArrayList" "DEFAULTCAPACITY_EMPTY_ELEMENTDATA" "[Ljava/lang/Object;" (.ref de)) (E1 : Exa Z h0 a1 "java/util/ArrayList") (F1 : Fld Z h0 a1 "java/util/AbstractList" "modCount" "I" (.int m1)) (F2 : Fld Z h0 a1 "java/util/ArrayList" "elementData" "[Ljava/lang/Object;" (.ref de)) (F3 : Fld Z h0 a1 "java/util/ArrayList" "size" "I" (.int (0 : Int32))) (EX : Exa Z h0 x1 "com/example/tributary/tributary/merge/Tree") (V0 : Arv Z h0 de kd (.object "java/lang/Object") (0 : Int32) [] .null) (g_a1 : n0 ≤ a1) (ne_a1_de : a1 ≠ de)  :
    own_M l Z h0 ws own_y1 jdk_38_method_25_code 2 (some .boolean) (⟨4, 1, 10, 78⟩ : Room) #[(.ref a1), (.ref x1)] (Q_adg Z a1 x1 de m1 kd h0 n0) := by
  refine MetFree.of_bodySF (plainFor_of_name pn_ali) hisR ?_
  intro p e s m args below meth c s₁ Bd hml0 hP hK
  obtain ⟨rfl, hZ, hh⟩ := hP
  have hx := Bd.exec
  have hby := Bd.bytes
  have hml : c.maxLocals = 2 := hml0
  have hown : s.vm.findClass "java/util/ArrayList" = some m.cls := findClass_of_methodNamed Bd.named
  have hnm := (name_of_methodNamed Bd.named Bd.method).1
  have X0 : Stand p l e (⟨4, 1, 10, 78⟩ : Room) s m #[(.ref a1), (.ref x1)] below meth c s₁ [] 0 0 := Stand.of_body Bd
  have e0 : s₁.heap = h0 := by rw [← hh, Bd.state]; rfl
  have N0 := Fr.nil n0
  have pre0 : ∀ t, Steps p.tables e below (s₁.setTop (mkF m 0 #[own_r a1, own_r x1] [])) t → Steps p.tables e below (s₁.setTop (entryFrame m #[(.ref a1), (.ref x1)] 2)) t := fun t k => castTop (ef_adg m a1 x1) k
  have K2 : Keep h0 h0 [a1] := Keep.refl h0 [a1]
  have pre3 : own_G p e below s₁ s₁ _ _ := fun t k => pre0 t (by
    refine XS.aloadN X0.here hx rfl (hb hby dadg_0) rfl rfl ?_
    refine XS.dup X0.here hx rfl (hb hby dadg_1) rfl rfl ?_
    exact k)
  obtain ⟨T4, X4, e4, st4⟩ := getF X0 hx hZ hown (host := "") (Or.inl (own_h hw 193 rfl)) (Via.of (own_h hw 167 rfl)) e0 F1 (g := (mkF m 2 #[own_r a1, own_r x1] [(.ref a1), (.ref a1)])) rfl rfl (hb hby dadg_2)
  have pre5 : own_G p e below T4 s₁ _ _ := fun t k => pre3 t (by
    refine st4 _ ?_
    refine XS.iconst X4.here hx rfl (hb hby dadg_5) ?_
    refine XS.iadd X4.here hx rfl (hb hby dadg_6) rfl ?_
    exact k)
  obtain ⟨T6, h6, X6, e6, W6, st6⟩ := putF X4 hx hZ hown (host := "") (Or.inl (own_h hw 193 rfl)) (Via.of (own_h hw 167 rfl)) e4 F1 E1 (Or.inl (own_h hw 23 rfl)) (own_h hw 2 rfl) (ty := .int) (by decide) rfl rfl (g := (mkF m 7 #[own_r a1, own_r x1] [(.int (m1 + (1 : Int32))), (.ref a1)])) rfl rfl (hb hby dadg_7)
  have F6 := F1.same W6
  have N6 := Fr.snoc X6 N0 g_a1
  have f7_0 := E1.wr W6
  have f7_2 := F2.other W6 (Or.inr (own_sn (own_l26 hw) (own_l23 hw) (by decide)))
  have f7_3 := F3.other W6 (Or.inr (own_sn (own_l80 hw) (own_l23 hw) (by decide)))
  have f7_4 := V0.other W6 ne_a1_de.symm
  have f7_5 := SDE.wr W6
  have f7_6 := EX.wr W6
  have K8 := K2.wr W6 (Or.inl (List.mem_of_getElem? (i := 0) rfl))
  have Z6 : n0 ≤ h6.size := Nat.le_trans Z0 (Keep.of_wr W6).1
  have pre9 : own_G p e below T6 s₁ _ _ := fun t k => pre5 t (by
    refine st6 _ ?_
    refine XS.aloadN X6.here hx rfl (hb hby dadg_10) rfl rfl ?_
    refine XS.aloadN X6.here hx rfl (hb hby dadg_11) rfl rfl ?_
    refine XS.aloadN X6.here hx rfl (hb hby dadg_12) rfl rfl ?_
    exact k)
  obtain ⟨T10, X10, e10, st10⟩ := getF X6 hx hZ hown (host := "") (Or.inl (own_h hw 25 rfl)) Via.refl e6 f7_2 (g := (mkF m 13 #[own_r a1, own_r x1] [(.ref a1), (.ref x1), (.ref a1)])) rfl rfl (hb hby dadg_13)
  have pre11 : own_G p e below T10 s₁ _ _ := fun t k => pre9 t (by
    refine st10 _ ?_
    refine XS.aloadN X10.here hx rfl (hb hby dadg_16) rfl rfl ?_
    exact k)
  obtain ⟨T12, X12, e12, st12⟩ := getF X10 hx hZ hown (host := "") (Or.inl (own_h hw 79 rfl)) Via.refl e10 f7_3 (g := (mkF m 17 #[own_r a1, own_r x1] [(.ref a1), (.ref de), (.ref x1), (.ref a1)])) rfl rfl (hb hby dadg_17)
  have pre13 : own_G p e below T12 s₁ _ _ := fun t k => pre11 t (by
    refine st12 _ ?_
    exact k)
  obtain ⟨cq14, q14a, q14b⟩ := f7_0.cell
  obtain ⟨_, _, ⟨T14, L14, kk14, nn14⟩, -, X14, ⟨Lc14, hQ14, l14, y14, z14⟩, st14⟩ := X12.privateBack hx (y := own_y8) hown (mvT hZ (own_h hw 194 rfl)) (mvT hZ (own_h hw 195 rfl)) (mvT hZ (own_h hw 197 rfl)) (Cond.privateMethod_at (mvP hZ (own_h hw 196 rfl) (args := #[]))) (mvT hZ (own_h hw 198 rfl)) (by decide) (backOf (W := 0) (rm_a3g l Z a0 hw [] a1 x1 de (m1 + (1 : Int32)) kd h6 n0 Z6 f7_5 f7_0 F6 f7_2 f7_3 f7_6 f7_4 g_a1 ne_a1_de) hZ (own_h hw 198 rfl) (own_h hw 3 rfl) (by decide) (by decide)) (g := (mkF m 20 #[own_r a1, own_r x1] [(.int (0 : Int32)), (.ref de), (.ref x1), (.ref a1)])) rfl (by rw [hml]; rfl) (Steps.refl _) (a := a1) (by rw [e12]; exact q14a) q14b (argsL := [(.ref x1), (.ref de), (.int (0 : Int32))]) (rest := []) (lenOf pd__Ljava_lang_Object__Ljava_lang_Object_I_V rfl) rfl (by show 2 * 0 + _ ≤ _; exact Nat.le_of_eq rfl) (hb hby dadg_20) (fun _ _ => ⟨rfl, e12, (by decide : 0 + 1 ≤ _), (by decide : 0 + 10 ≤ _)⟩)
  dsimp only [Pt.U, Pt.locs, Pt.cells, Pt.slots] at X14 l14 y14 z14 st14 hQ14
  subst l14 y14 z14
  obtain ⟨br14, kr14, rfl, N14q, Kc14, g_br14, sr14, Fm14, Fe14, Fz14, Vr14, Or14, Ea14⟩ := hQ14
  have N14 := Fr.app N6 N14q
  have f15_0 := f7_0.keep Kc14
  have f15_3 := f7_4.keep Kc14 (own_nm1 ne_a1_de.symm)
  have f15_4 := own_sta_keep f7_5 Kc14 (by intro x hx; simp only [List.mem_cons, List.not_mem_nil, or_false] at hx; rcases hx with rfl; exact own_ns_exa f7_0)
  have f15_5 := f7_6.keep Kc14
  have K16 := K8.trans Kc14 (fun x hx => by cases List.mem_singleton.mp hx; exact (Or.inl (List.mem_of_getElem? (i := 0) rfl)))
  have Z14 : n0 ≤ T14.heap.size := Nat.le_trans Z6 Kc14.1
  have e14 : T14.heap = T14.heap := rfl
  have sz_br14 : h0.size ≤ br14 := Nat.le_trans (Keep.of_wr W6).1 sr14
  have pre17 : own_G p e below T14 s₁ _ _ := fun t k => pre13 t (by
    refine st14.trans ?_
    refine XS.iconst X14.here hx rfl (hb hby dadg_23) ?_
    exact k)
  obtain ⟨fs, hr, hrun, hended, hW, hsame⟩ := X14.leave (v := some (.int (1 : Int32))) (fun h => by rw [Bd.returns] at h; cases h)
  refine ⟨_, _, pre17 _ ?_, hrun, hended, _, _, rfl, ?_, ⟨_, rfl⟩, hW, hsame.mono (by decide) (by decide)⟩
  · exact retN X14 hx (t := .boolean) Bd.returns (by simp) (hb hby dadg_24) hr
  · show Q_adg Z a1 x1 de m1 kd h0 n0 _ T14.heap _
    skip
    exact ⟨br14, kr14, rfl, N14, K16, g_br14, sz_br14, Fm14, Fe14, Fz14, Vr14, Or14, Ea14⟩
theorem dpcn_0 : decode own_k19 0 = .ok (.iload_n 0, 1) := by decide +kernel
theorem dpcn_1 : decode own_k19 1 = .ok (.ifCond .lt 8, 3) := by decide +kernel
theorem dpcn_4 : decode own_k19 4 = .ok (.iload_n 0, 1) := by decide +kernel
theorem dpcn_5 : decode own_k19 5 = .ok (.iload_n 1, 1) := by decide +kernel
theorem dpcn_6 : decode own_k19 6 = .ok (.if_icmp .lt 10, 3) := by decide +kernel
theorem dpcn_16 : decode own_k19 16 = .ok (.iload_n 0, 1) := by decide +kernel
theorem dpcn_17 : decode own_k19 17 = .ok (.ireturn, 1) := by decide +kernel
theorem pn_pcn : plainName "jdk/internal/util/Preconditions" = true := by first | (simp [plainName, overriddenIn]; done) | decide +kernel
theorem ef_pcn (m : MethodId) (i : Int32) (n : Int32) : entryFrame m #[(.int i), (.int n), .null] 3 = (mkF m 0 #[own_i i, own_i n, .val .null] []) := by first | (simp [entryFrame, mkF, argsToLocals, Value.category]; done) | rfl
def Q_pcn (Z : State) (i n : Int32) (h0 : Heap) (n0 : Nat) (v : Option Value) (h : Heap) (L : List Loc) : Prop := v = some (.int i) ∧ Fr n0 L ∧ h = h0
theorem rm_pcn (l : Launch) (Z : State) (a0 : Array Value) (hw : own_W a0 Z) (ws : List Jvm.Cond) (i n : Int32) (h0 : Heap) (n0 : Nat) (Z0 : n0 ≤ h0.size) (hi : ¬ i < 0) (hn : i < n) :
    own_M l Z h0 ws own_y13 jdk_41_method_11_code 3 (some .int) (⟨0, 0, 0, 0⟩ : Room) #[(.int i), (.int n), .null] (Q_pcn Z i n h0 n0) := by
  refine MetFree.of_bodySF (plainFor_of_name pn_pcn) hisR ?_
  intro p e s m args below meth c s₁ Bd hml0 hP hK
  obtain ⟨rfl, hZ, hh⟩ := hP
  have hx := Bd.exec
  have hby := Bd.bytes
  have hml : c.maxLocals = 3 := hml0
  have hown : s.vm.findClass "jdk/internal/util/Preconditions" = some m.cls := findClass_of_methodNamed Bd.named
  have hnm := (name_of_methodNamed Bd.named Bd.method).1
  have X0 : Stand p l e (⟨0, 0, 0, 0⟩ : Room) s m #[(.int i), (.int n), .null] below meth c s₁ [] 0 0 := Stand.of_body Bd
  have e0 : s₁.heap = h0 := by rw [← hh, Bd.state]; rfl
  have N0 := Fr.nil n0
  have pre0 : ∀ t, Steps p.tables e below (s₁.setTop (mkF m 0 #[own_i i, own_i n, .val .null] [])) t → Steps p.tables e below (s₁.setTop (entryFrame m #[(.int i), (.int n), .null] 3)) t := fun t k => castTop (ef_pcn m i n) k
  have pre2 : own_G p e below s₁ s₁ _ _ := fun t k => pre0 t (by
    refine XS.iloadN X0.here hx rfl (hb hby dpcn_0) rfl ?_
    refine XS.ifNo X0.here hx rfl (hb hby dpcn_1) rfl (XT.i0_lt_f hi) ?_
    refine XS.iloadN X0.here hx rfl (hb hby dpcn_4) rfl ?_
    refine XS.iloadN X0.here hx rfl (hb hby dpcn_5) rfl ?_
    refine XS.icmpYes X0.here hx rfl (pc0 := 6) (pc' := 16) rfl (hb hby dpcn_6) rfl (XT.ii_lt_t hn) (by decide) (by decide) ?_
    refine XS.iloadN X0.here hx rfl (hb hby dpcn_16) rfl ?_
    exact k)
  obtain ⟨fs, hr, hrun, hended, hW, hsame⟩ := X0.leave (v := some (.int i)) (fun h => by rw [Bd.returns] at h; cases h)
  refine ⟨_, _, pre2 _ ?_, hrun, hended, _, _, rfl, ?_, ⟨_, rfl⟩, hW, hsame.mono (by decide) (by decide)⟩
  · exact retI X0 hx Bd.returns (hb hby dpcn_17) hr
  · show Q_pcn Z i n h0 n0 _ s₁.heap _
    rw [e0]
    exact ⟨rfl, N0, rfl⟩
theorem doci_0 : decode jdk_31_method_17_code 0 = .ok (.iload_n 0, 1) := by decide +kernel
theorem doci_1 : decode jdk_31_method_17_code 1 = .ok (.iload_n 1, 1) := by decide +kernel
theorem doci_2 : decode jdk_31_method_17_code 2 = .ok (.aconst_null, 1) := by decide +kernel
theorem doci_3 : decode jdk_31_method_17_code 3 = .ok (.invokestatic 105, 3) := by decide +kernel
theorem doci_6 : decode jdk_31_method_17_code 6 = .ok (.ireturn, 1) := by decide +kernel
theorem pd__IILjava_util_function_BiFunction__I : parseMethodDescriptor "(IILjava/util/function/BiFunction;)I" = some ⟨[.int, .int, (.object "java/util/function/BiFunction")], some .int⟩ := by decide +kernel
theorem pn_oci : plainName "java/util/Objects" = true := by first | (simp [plainName, overriddenIn]; done) | decide +kernel
theorem ef_oci (m : MethodId) (i : Int32) (n : Int32) : entryFrame m #[(.int i), (.int n)] 2 = (mkF m 0 #[own_i i, own_i n] []) := by first | (simp [entryFrame, mkF, argsToLocals, Value.category]; done) | rfl
def Q_oci (Z : State) (i n : Int32) (h0 : Heap) (n0 : Nat) (v : Option Value) (h : Heap) (L : List Loc) : Prop := v = some (.int i) ∧ Fr n0 L ∧ h = h0
theorem rm_oci (l : Launch) (Z : State) (a0 : Array Value) (hw : own_W a0 Z) (ws : List Jvm.Cond) (i n : Int32) (h0 : Heap) (n0 : Nat) (Z0 : n0 ≤ h0.size) (hi : ¬ i < 0) (hn : i < n) :
    own_M l Z h0 ws own_y37 jdk_31_method_17_code 2 (some .int) (⟨1, 0, 0, 14⟩ : Room) #[(.int i), (.int n)] (Q_oci Z i n h0 n0) := by
  refine MetFree.of_bodySF (plainFor_of_name pn_oci) hisR ?_
  intro p e s m args below meth c s₁ Bd hml0 hP hK
  obtain ⟨rfl, hZ, hh⟩ := hP
  have hx := Bd.exec
  have hby := Bd.bytes
  have hml : c.maxLocals = 2 := hml0
  have hown : s.vm.findClass "java/util/Objects" = some m.cls := findClass_of_methodNamed Bd.named
  have hnm := (name_of_methodNamed Bd.named Bd.method).1
  have X0 : Stand p l e (⟨1, 0, 0, 14⟩ : Room) s m #[(.int i), (.int n)] below meth c s₁ [] 0 0 := Stand.of_body Bd
  have e0 : s₁.heap = h0 := by rw [← hh, Bd.state]; rfl
  have N0 := Fr.nil n0
  have pre0 : ∀ t, Steps p.tables e below (s₁.setTop (mkF m 0 #[own_i i, own_i n] [])) t → Steps p.tables e below (s₁.setTop (entryFrame m #[(.int i), (.int n)] 2)) t := fun t k => castTop (ef_oci m i n) k
  have pre2 : own_G p e below s₁ s₁ _ _ := fun t k => pre0 t (by
    refine XS.iloadN X0.here hx rfl (hb hby doci_0) rfl ?_
    refine XS.iloadN X0.here hx rfl (hb hby doci_1) rfl ?_
    refine XS.aconstNull X0.here hx rfl (hb hby doci_2) ?_
    exact k)
  obtain ⟨_, _, ⟨T3, L3, kk3, nn3⟩, -, X3, ⟨Lc3, hQ3, l3, y3, z3⟩, st3⟩ := Jvm.LawKit.callS X0 hx (y := own_y13) hown (mvT hZ (own_h hw 323 rfl)) (mvT hZ (own_h hw 138 rfl)) (mvT hZ (own_h hw 136 rfl)) (mvT hZ (own_h hw 139 rfl)) (by decide) (backOf (W := 0) (rm_pcn l Z a0 hw [] i n h0 n0 Z0 hi hn) hZ (own_h hw 139 rfl) (own_h hw 136 rfl) (by decide) (by decide)) (g := (mkF m 3 #[own_i i, own_i n] [.null, (.int n), (.int i)])) rfl (by rw [hml]; rfl) (argsL := [(.int i), (.int n), .null]) (rest := []) (lenOf pd__IILjava_util_function_BiFunction__I rfl) rfl (by show 2 * 0 + _ ≤ _; exact Nat.le_of_eq rfl) (hb hby doci_3) (fun _ _ => ⟨rfl, e0, (by decide : 0 + 0 ≤ _), (by decide : 0 + 0 ≤ _)⟩)
  dsimp only [Pt.U, Pt.locs, Pt.cells, Pt.slots] at X3 l3 y3 z3 st3 hQ3
  subst l3 y3 z3
  obtain ⟨rfl, N3q, eq3⟩ := hQ3
  have N3 := Fr.app N0 N3q
  have pre4 : own_G p e below T3 s₁ _ _ := fun t k => pre2 t (by
    refine st3 _ ?_
    exact k)
  obtain ⟨fs, hr, hrun, hended, hW, hsame⟩ := X3.leave (v := some (.int i)) (fun h => by rw [Bd.returns] at h; cases h)
  refine ⟨_, _, pre4 _ ?_, hrun, hended, _, _, rfl, ?_, ⟨_, rfl⟩, hW, hsame.mono (by decide) (by decide)⟩
  · exact retI X3 hx Bd.returns (hb hby doci_6) hr
  · show Q_oci Z i n h0 n0 _ T3.heap _
    rw [eq3]
    exact ⟨rfl, N3, rfl⟩
theorem dfrm_0 : decode own_k10 0 = .ok (.aload_n 0, 1) := by decide +kernel
theorem dfrm_1 : decode own_k10 1 = .ok (.dup, 1) := by decide +kernel
theorem dfrm_2 : decode own_k10 2 = .ok (.getfield 63, 3) := by decide +kernel
theorem dfrm_5 : decode own_k10 5 = .ok (.iconst 1, 1) := by decide +kernel
theorem dfrm_6 : decode own_k10 6 = .ok (.iadd, 1) := by decide +kernel
theorem dfrm_7 : decode own_k10 7 = .ok (.putfield 63, 3) := by decide +kernel
theorem dfrm_10 : decode own_k10 10 = .ok (.aload_n 0, 1) := by decide +kernel
theorem dfrm_11 : decode own_k10 11 = .ok (.getfield 48, 3) := by decide +kernel
theorem dfrm_14 : decode own_k10 14 = .ok (.iconst 1, 1) := by decide +kernel
theorem dfrm_15 : decode own_k10 15 = .ok (.isub, 1) := by decide +kernel
theorem dfrm_16 : decode own_k10 16 = .ok (.dup, 1) := by decide +kernel
theorem dfrm_17 : decode own_k10 17 = .ok (.istore_n 3, 1) := by decide +kernel
theorem dfrm_18 : decode own_k10 18 = .ok (.iload_n 2, 1) := by decide +kernel
theorem dfrm_19 : decode own_k10 19 = .ok (.if_icmp .le 15, 3) := by decide +kernel
theorem dfrm_34 : decode own_k10 34 = .ok (.aload_n 1, 1) := by decide +kernel
theorem dfrm_35 : decode own_k10 35 = .ok (.aload_n 0, 1) := by decide +kernel
theorem dfrm_36 : decode own_k10 36 = .ok (.iload_n 3, 1) := by decide +kernel
theorem dfrm_37 : decode own_k10 37 = .ok (.dup_x1, 1) := by decide +kernel
theorem dfrm_38 : decode own_k10 38 = .ok (.putfield 48, 3) := by decide +kernel
theorem dfrm_41 : decode own_k10 41 = .ok (.aconst_null, 1) := by decide +kernel
theorem dfrm_42 : decode own_k10 42 = .ok (.aastore, 1) := by decide +kernel
theorem dfrm_43 : decode own_k10 43 = .ok (.return_, 1) := by decide +kernel
theorem ef_frm (m : MethodId) (a1 : Addr) (b1 : Addr) (i : Int32) : entryFrame m #[(.ref a1), (.ref b1), (.int i)] 4 = (mkF m 0 #[own_r a1, own_r b1, own_i i, .unset] []) := by first | (simp [entryFrame, mkF, argsToLocals, Value.category]; done) | rfl
def Q_frm (Z : State) (a1 x1 b1 : Addr) (m1 n i z : Int32) (k1 : ClassId) (xs : List Value) (h0 : Heap) (n0 : Nat) (v : Option Value) (h : Heap) (L : List Loc) : Prop := v = none ∧ Fr n0 L ∧ Keep h0 h [a1, b1] ∧ Fld Z h a1 "java/util/AbstractList" "modCount" "I" (.int (m1 + (1 : Int32))) ∧ Fld Z h a1 "java/util/ArrayList" "elementData" "[Ljava/lang/Object;" (.ref b1) ∧ Fld Z h a1 "java/util/ArrayList" "size" "I" (.int i) ∧ Arv Z h b1 k1 (.object "java/lang/Object") z xs .null
theorem rm_frm (l : Launch) (Z : State) (a0 : Array Value) (hw : own_W a0 Z) (ws : List Jvm.Cond) (a1 x1 b1 : Addr) (m1 n i z : Int32) (k1 : ClassId) (xs : List Value) (h0 : Heap) (n0 : Nat) (Z0 : n0 ≤ h0.size) (E1 : Exa Z h0 a1 "java/util/ArrayList") (F1 : Fld Z h0 a1 "java/util/AbstractList" "modCount" "I" (.int m1)) (F2 : Fld Z h0 a1 "java/util/ArrayList" "elementData" "[Ljava/lang/Object;" (.ref b1)) (F3 : Fld Z h0 a1 "java/util/ArrayList" "size" "I" (.int n)) (V1 : Arv Z h0 b1 k1 (.object "java/lang/Object") z (xs ++ [(Value.ref x1)]) .null) (g_a1 : n0 ≤ a1) (g_b1 : n0 ≤ b1) (ne_a1_b1 : a1 ≠ b1) (hin : ¬ i < 0 ∧ i < z) (hl : i.toNatClampNeg = xs.length) (hn1 : n - (1 : Int32) = i)  :
    own_M l Z h0 ws own_y38 jdk_38_method_39_code 4 none (⟨0, 0, 0, 0⟩ : Room) #[(.ref a1), (.ref b1), (.int i)] (Q_frm Z a1 x1 b1 m1 n i z k1 xs h0 n0) := by
  refine MetFree.of_bodySF (plainFor_of_name pn_ali) hisR ?_
  intro p e s m args below meth c s₁ Bd hml0 hP hK
  obtain ⟨rfl, hZ, hh⟩ := hP
  have hx := Bd.exec
  have hby := Bd.bytes
  have hml : c.maxLocals = 4 := hml0
  have hown : s.vm.findClass "java/util/ArrayList" = some m.cls := findClass_of_methodNamed Bd.named
  have hnm := (name_of_methodNamed Bd.named Bd.method).1
  have X0 : Stand p l e (⟨0, 0, 0, 0⟩ : Room) s m #[(.ref a1), (.ref b1), (.int i)] below meth c s₁ [] 0 0 := Stand.of_body Bd
  have e0 : s₁.heap = h0 := by rw [← hh, Bd.state]; rfl
  have N0 := Fr.nil n0
  have pre0 : ∀ t, Steps p.tables e below (s₁.setTop (mkF m 0 #[own_r a1, own_r b1, own_i i, .unset] [])) t → Steps p.tables e below (s₁.setTop (entryFrame m #[(.ref a1), (.ref b1), (.int i)] 4)) t := fun t k => castTop (ef_frm m a1 b1 i) k
  have K2 : Keep h0 h0 [a1, b1] := Keep.refl h0 [a1, b1]
  have pre3 : own_G p e below s₁ s₁ _ _ := fun t k => pre0 t (by
    refine XS.aloadN X0.here hx rfl (hb hby dfrm_0) rfl rfl ?_
    refine XS.dup X0.here hx rfl (hb hby dfrm_1) rfl rfl ?_
    exact k)
  obtain ⟨T4, X4, e4, st4⟩ := getF X0 hx hZ hown (host := "") (Or.inl (own_h hw 193 rfl)) (Via.of (own_h hw 167 rfl)) e0 F1 (g := (mkF m 2 #[own_r a1, own_r b1, own_i i, .unset] [(.ref a1), (.ref a1)])) rfl rfl (hb hby dfrm_2)
  have pre5 : own_G p e below T4 s₁ _ _ := fun t k => pre3 t (by
    refine st4 _ ?_
    refine XS.iconst X4.here hx rfl (hb hby dfrm_5) ?_
    refine XS.iadd X4.here hx rfl (hb hby dfrm_6) rfl ?_
    exact k)
  obtain ⟨T6, h6, X6, e6, W6, st6⟩ := putF X4 hx hZ hown (host := "") (Or.inl (own_h hw 193 rfl)) (Via.of (own_h hw 167 rfl)) e4 F1 E1 (Or.inl (own_h hw 23 rfl)) (own_h hw 2 rfl) (ty := .int) (by decide) rfl rfl (g := (mkF m 7 #[own_r a1, own_r b1, own_i i, .unset] [(.int (m1 + (1 : Int32))), (.ref a1)])) rfl rfl (hb hby dfrm_7)
  have F6 := F1.same W6
  have N6 := Fr.snoc X6 N0 g_a1
  have f7_0 := E1.wr W6
  have f7_2 := F2.other W6 (Or.inr (own_sn (own_l26 hw) (own_l23 hw) (by decide)))
  have f7_3 := F3.other W6 (Or.inr (own_sn (own_l80 hw) (own_l23 hw) (by decide)))
  have f7_4 := V1.other W6 ne_a1_b1.symm
  have K8 := K2.wr W6 (Or.inl (List.mem_of_getElem? (i := 0) rfl))
  have Z6 : n0 ≤ h6.size := Nat.le_trans Z0 (Keep.of_wr W6).1
  have pre9 : own_G p e below T6 s₁ _ _ := fun t k => pre5 t (by
    refine st6 _ ?_
    refine XS.aloadN X6.here hx rfl (hb hby dfrm_10) rfl rfl ?_
    exact k)
  obtain ⟨T10, X10, e10, st10⟩ := getF X6 hx hZ hown (host := "") (Or.inl (own_h hw 79 rfl)) Via.refl e6 f7_3 (g := (mkF m 11 #[own_r a1, own_r b1, own_i i, .unset] [(.ref a1)])) rfl rfl (hb hby dfrm_11)
  have pre11 : own_G p e below T10 s₁ _ _ := fun t k => pre9 t (by
    refine st10 _ ?_
    refine XS.iconst X10.here hx rfl (hb hby dfrm_14) ?_
    refine XS.isub X10.here hx rfl (hb hby dfrm_15) rfl ?_
    show Steps p.tables e below (T10.setTop (mkF m 16 #[own_r a1, own_r b1, own_i i, .unset] [(.int (n - (1 : Int32)))])) _
    rw [hn1]
    refine XS.dup X10.here hx rfl (hb hby dfrm_16) rfl rfl ?_
    refine XS.istoreN X10.here hx rfl (hb hby dfrm_17) rfl (l' := #[own_r a1, own_r b1, own_i i, own_i i]) rfl ?_
    refine XS.iloadN X10.here hx rfl (hb hby dfrm_18) rfl ?_
    refine XS.icmpYes X10.here hx rfl (pc0 := 19) (pc' := 34) rfl (hb hby dfrm_19) rfl (XT.ii_le_t Int32.lt_irrefl) (by decide) (by decide) ?_
    refine XS.aloadN X10.here hx rfl (hb hby dfrm_34) rfl rfl ?_
    refine XS.aloadN X10.here hx rfl (hb hby dfrm_35) rfl rfl ?_
    refine XS.iloadN X10.here hx rfl (hb hby dfrm_36) rfl ?_
    refine XT.dupX1 X10.here hx rfl (hb hby dfrm_37) rfl rfl rfl ?_
    exact k)
  obtain ⟨T12, h12, X12, e12, W12, st12⟩ := putF X10 hx hZ hown (host := "") (Or.inl (own_h hw 79 rfl)) Via.refl e10 f7_3 f7_0 (Or.inl (own_h hw 80 rfl)) (own_h hw 2 rfl) (ty := .int) (by decide) rfl rfl (g := (mkF m 38 #[own_r a1, own_r b1, own_i i, own_i i] [(.int i), (.ref a1), (.int i), (.ref b1)])) rfl rfl (hb hby dfrm_38)
  have F12 := f7_3.same W12
  have N12 := Fr.snoc X12 N6 g_a1
  have f13_0 := f7_0.wr W12
  have f13_1 := f7_2.other W12 (Or.inr (own_sn (own_l26 hw) (own_l80 hw) (by decide)))
  have f13_3 := f7_4.other W12 ne_a1_b1.symm
  have f13_4 := F6.other W12 (Or.inr (own_sn (own_l23 hw) (own_l80 hw) (by decide)))
  have K14 := K8.wr W12 (Or.inl (List.mem_of_getElem? (i := 0) rfl))
  have Z12 : n0 ≤ h12.size := Nat.le_trans Z6 (Keep.of_wr W12).1
  have pre15 : own_G p e below T12 s₁ _ _ := fun t k => pre11 t (by
    refine st12 _ ?_
    refine XS.aconstNull X12.here hx rfl (hb hby dfrm_41) ?_
    exact k)
  obtain ⟨cl16, Ar16, kc16, S16, M16, H16, G16⟩ := id f13_3
  have hin16 := inb_of S16 (j := i) hin
  obtain ⟨T16, h16, X16, e16, W16, st16⟩ := stR X12 hx hZ e12 Ar16 (j := i) hin16 rfl (Or.inl rfl) (g := (mkF m 42 #[own_r a1, own_r b1, own_i i, own_i i] [.null, (.int i), (.ref b1)])) rfl rfl (hb hby dfrm_42)
  have V16 : Arv Z h16 b1 k1 (.object "java/lang/Object") z ((xs ++ [(Value.ref x1)]).set xs.length .null) .null := Arv.set Ar16 kc16 S16 M16 H16 G16 (v := .null) rfl W16 xs.length hl (by simp)
  have N16 := Fr.snoc X16 N12 g_b1
  have f17_0 := f13_0.wr W16
  have f17_1 := f13_1.other W16 (Or.inl ne_a1_b1)
  have f17_3 := f13_4.other W16 (Or.inl ne_a1_b1)
  have f17_4 := F12.other W16 (Or.inl ne_a1_b1)
  have K18 := K14.wr W16 (Or.inl (List.mem_of_getElem? (i := 1) rfl))
  have Z16 : n0 ≤ h16.size := Nat.le_trans Z12 (Keep.of_wr W16).1
  rw [own_app] at V16
  have V19 : Arv Z h16 b1 k1 (.object "java/lang/Object") z xs .null := V16.pad (fun q => (pad_rep xs .null 1 q).symm)
  have pre20 : own_G p e below T16 s₁ _ _ := fun t k => pre15 t (by
    refine st16 _ ?_
    exact k)
  obtain ⟨fs, hr, hrun, hended, hW, hsame⟩ := X16.leave (v := none) (fun _ => rfl)
  refine ⟨_, _, pre20 _ ?_, hrun, hended, _, _, rfl, ?_, ⟨_, rfl⟩, hW, hsame.mono (by decide) (by decide)⟩
  · exact X16.returnOut hx Bd.returns (hb hby dfrm_43) hr
  · show Q_frm Z a1 x1 b1 m1 n i z k1 xs h0 n0 _ T16.heap _
    rw [e16]
    exact ⟨rfl, N16, K18, f17_3, f17_1, f17_4, V19⟩
theorem own_atl (xs : List Value) (a d : Value) : (xs ++ [a]).getD xs.length d = a := by
  induction xs with
  | nil => rfl
  | cons x t ih => exact ih
theorem drem_0 : decode own_k14 0 = .ok (.iload_n 1, 1) := by decide +kernel
theorem drem_1 : decode own_k14 1 = .ok (.aload_n 0, 1) := by decide +kernel
theorem drem_2 : decode own_k14 2 = .ok (.getfield 48, 3) := by decide +kernel
theorem drem_5 : decode own_k14 5 = .ok (.invokestatic 118, 3) := by decide +kernel
theorem drem_8 : decode own_k14 8 = .ok (.pop, 1) := by decide +kernel
theorem drem_9 : decode own_k14 9 = .ok (.aload_n 0, 1) := by decide +kernel
theorem drem_10 : decode own_k14 10 = .ok (.getfield 9, 3) := by decide +kernel
theorem drem_13 : decode own_k14 13 = .ok (.astore_n 2, 1) := by decide +kernel
theorem drem_14 : decode own_k14 14 = .ok (.aload_n 2, 1) := by decide +kernel
theorem drem_15 : decode own_k14 15 = .ok (.iload_n 1, 1) := by decide +kernel
theorem drem_16 : decode own_k14 16 = .ok (.aaload, 1) := by decide +kernel
theorem drem_17 : decode own_k14 17 = .ok (.astore_n 3, 1) := by decide +kernel
theorem drem_18 : decode own_k14 18 = .ok (.aload_n 0, 1) := by decide +kernel
theorem drem_19 : decode own_k14 19 = .ok (.aload_n 2, 1) := by decide +kernel
theorem drem_20 : decode own_k14 20 = .ok (.iload_n 1, 1) := by decide +kernel
theorem drem_21 : decode own_k14 21 = .ok (.invokevirtual 144, 3) := by decide +kernel
theorem drem_24 : decode own_k14 24 = .ok (.aload_n 3, 1) := by decide +kernel
theorem drem_25 : decode own_k14 25 = .ok (.areturn, 1) := by decide +kernel
theorem pd___Ljava_lang_Object_I_V : parseMethodDescriptor "([Ljava/lang/Object;I)V" = some ⟨[(.array (.object "java/lang/Object")), .int], none⟩ := by decide +kernel
theorem ef_rem (m : MethodId) (a1 : Addr) (i : Int32) : entryFrame m #[(.ref a1), (.int i)] 4 = (mkF m 0 #[own_r a1, own_i i, .unset, .unset] []) := by first | (simp [entryFrame, mkF, argsToLocals, Value.category]; done) | rfl
def Q_rem (Z : State) (a1 x1 b1 : Addr) (m1 n i z : Int32) (k1 : ClassId) (xs : List Value) (h0 : Heap) (n0 : Nat) (v : Option Value) (h : Heap) (L : List Loc) : Prop := v = some (.ref x1) ∧ Fr n0 L ∧ Keep h0 h [a1, b1] ∧ Fld Z h a1 "java/util/AbstractList" "modCount" "I" (.int (m1 + (1 : Int32))) ∧ Fld Z h a1 "java/util/ArrayList" "elementData" "[Ljava/lang/Object;" (.ref b1) ∧ Fld Z h a1 "java/util/ArrayList" "size" "I" (.int i) ∧ Arv Z h b1 k1 (.object "java/lang/Object") z xs .null
theorem rm_rem (l : Launch) (Z : State) (a0 : Array Value) (hw : own_W a0 Z) (ws : List Jvm.Cond) (a1 x1 b1 : Addr) (m1 n i z : Int32) (k1 : ClassId) (xs : List Value) (h0 : Heap) (n0 : Nat) (Z0 : n0 ≤ h0.size) (E1 : Exa Z h0 a1 "java/util/ArrayList") (F1 : Fld Z h0 a1 "java/util/AbstractList" "modCount" "I" (.int m1)) (F2 : Fld Z h0 a1 "java/util/ArrayList" "elementData" "[Ljava/lang/Object;" (.ref b1)) (F3 : Fld Z h0 a1 "java/util/ArrayList" "size" "I" (.int n)) (V1 : Arv Z h0 b1 k1 (.object "java/lang/Object") z (xs ++ [(Value.ref x1)]) .null) (g_a1 : n0 ≤ a1) (g_b1 : n0 ≤ b1) (ne_a1_b1 : a1 ≠ b1) (hin : ¬ i < 0 ∧ i < z) (hl : i.toNatClampNeg = xs.length) (hn1 : n - (1 : Int32) = i) (hn : i < n) :
    own_M l Z h0 ws own_y25 jdk_38_method_29_code 4 (some (.object "java/lang/Object")) (⟨2, 0, 0, 30⟩ : Room) #[(.ref a1), (.int i)] (Q_rem Z a1 x1 b1 m1 n i z k1 xs h0 n0) := by
  refine MetFree.of_bodySF (plainFor_of_name pn_ali) hisR ?_
  intro p e s m args below meth c s₁ Bd hml0 hP hK
  obtain ⟨rfl, hZ, hh⟩ := hP
  have hx := Bd.exec
  have hby := Bd.bytes
  have hml : c.maxLocals = 4 := hml0
  have hown : s.vm.findClass "java/util/ArrayList" = some m.cls := findClass_of_methodNamed Bd.named
  have hnm := (name_of_methodNamed Bd.named Bd.method).1
  have X0 : Stand p l e (⟨2, 0, 0, 30⟩ : Room) s m #[(.ref a1), (.int i)] below meth c s₁ [] 0 0 := Stand.of_body Bd
  have e0 : s₁.heap = h0 := by rw [← hh, Bd.state]; rfl
  have N0 := Fr.nil n0
  have pre0 : ∀ t, Steps p.tables e below (s₁.setTop (mkF m 0 #[own_r a1, own_i i, .unset, .unset] [])) t → Steps p.tables e below (s₁.setTop (entryFrame m #[(.ref a1), (.int i)] 4)) t := fun t k => castTop (ef_rem m a1 i) k
  have pre2 : own_G p e below s₁ s₁ _ _ := fun t k => pre0 t (by
    refine XS.iloadN X0.here hx rfl (hb hby drem_0) rfl ?_
    refine XS.aloadN X0.here hx rfl (hb hby drem_1) rfl rfl ?_
    exact k)
  obtain ⟨T3, X3, e3, st3⟩ := getF X0 hx hZ hown (host := "") (Or.inl (own_h hw 79 rfl)) Via.refl e0 F3 (g := (mkF m 2 #[own_r a1, own_i i, .unset, .unset] [(.ref a1), (.int i)])) rfl rfl (hb hby drem_2)
  have pre4 : own_G p e below T3 s₁ _ _ := fun t k => pre2 t (by
    refine st3 _ ?_
    exact k)
  obtain ⟨_, _, ⟨T5, L5, kk5, nn5⟩, -, X5, ⟨Lc5, hQ5, l5, y5, z5⟩, st5⟩ := Jvm.LawKit.callS X3 hx (y := own_y37) hown (mvT hZ (own_h hw 320 rfl)) (mvT hZ (own_h hw 321 rfl)) (mvT hZ (own_h hw 255 rfl)) (mvT hZ (own_h hw 322 rfl)) (by decide) (backOf (W := 0) (rm_oci l Z a0 hw [] i n h0 n0 Z0 hin.1 hn) hZ (own_h hw 322 rfl) (own_h hw 255 rfl) (by decide) (by decide)) (g := (mkF m 5 #[own_r a1, own_i i, .unset, .unset] [(.int n), (.int i)])) rfl (by rw [hml]; rfl) (argsL := [(.int i), (.int n)]) (rest := []) (lenOf pd__II_I rfl) rfl (by show 2 * 0 + _ ≤ _; exact Nat.le_of_eq rfl) (hb hby drem_5) (fun _ _ => ⟨rfl, e3, (by decide : 0 + 0 ≤ _), (by decide : 0 + 0 ≤ _)⟩)
  dsimp only [Pt.U, Pt.locs, Pt.cells, Pt.slots] at X5 l5 y5 z5 st5 hQ5
  subst l5 y5 z5
  obtain ⟨rfl, N5q, eq5⟩ := hQ5
  have N5 := Fr.app N0 N5q
  have pre6 : own_G p e below T5 s₁ _ _ := fun t k => pre4 t (by
    refine st5 _ ?_
    refine XT.pop X5.here hx rfl (hb hby drem_8) rfl rfl ?_
    refine XS.aloadN X5.here hx rfl (hb hby drem_9) rfl rfl ?_
    exact k)
  obtain ⟨T7, X7, e7, st7⟩ := getF X5 hx hZ hown (host := "") (Or.inl (own_h hw 25 rfl)) Via.refl eq5 F2 (g := (mkF m 10 #[own_r a1, own_i i, .unset, .unset] [(.ref a1)])) rfl rfl (hb hby drem_10)
  obtain ⟨cl8, Ar8, kc8, S8, M8, H8, G8⟩ := id V1
  have hin8 := inb_of S8 (j := i) hin
  have hat8 : cl8.slots[(i).toNatClampNeg]? = some (.ref x1) := H8.at hin8 (by rw [hl]; exact own_atl xs _ _)
  have pre9 : own_G p e below T7 s₁ _ _ := fun t k => pre6 t (by
    refine st7 _ ?_
    refine XS.astoreN X7.here hx rfl (hb hby drem_13) rfl rfl (l' := #[own_r a1, own_i i, own_r b1, .unset]) rfl ?_
    refine XS.aloadN X7.here hx rfl (hb hby drem_14) rfl rfl ?_
    refine XS.iloadN X7.here hx rfl (hb hby drem_15) rfl ?_
    refine X7.aaload hx (j := i) (v := (.ref x1)) (by rw [e7]; exact Ar8.1) (State.isArrayOf_alike hZ.alike Ar8.2.1) rfl Ar8.2.2 hin8 hat8 (g := (mkF m 16 #[own_r a1, own_i i, own_r b1, .unset] [(.int i), (.ref b1)])) rfl rfl (hb hby drem_16) _ ?_
    refine XS.astoreN X7.here hx rfl (hb hby drem_17) rfl rfl (l' := #[own_r a1, own_i i, own_r b1, own_r x1]) rfl ?_
    refine XS.aloadN X7.here hx rfl (hb hby drem_18) rfl rfl ?_
    refine XS.aloadN X7.here hx rfl (hb hby drem_19) rfl rfl ?_
    refine XS.iloadN X7.here hx rfl (hb hby drem_20) rfl ?_
    exact k)
  obtain ⟨cq10, q10a, q10b⟩ := E1.cell
  obtain ⟨_, _, ⟨T10, L10, kk10, nn10⟩, -, X10, ⟨Lc10, hQ10, l10, y10, z10⟩, st10⟩ := X7.privateBack hx (y := own_y38) hown (mvT hZ (own_h hw 324 rfl)) (mvT hZ (own_h hw 325 rfl)) (mvT hZ (own_h hw 327 rfl)) (Cond.privateMethod_at (mvP hZ (own_h hw 326 rfl) (args := #[]))) (mvT hZ (own_h hw 328 rfl)) (by decide) (backOf (W := 0) (rm_frm l Z a0 hw [] a1 x1 b1 m1 n i z k1 xs h0 n0 Z0 E1 F1 F2 F3 V1 g_a1 g_b1 ne_a1_b1 hin hl hn1) hZ (own_h hw 328 rfl) (own_h hw 3 rfl) (by decide) (by decide)) (g := (mkF m 21 #[own_r a1, own_i i, own_r b1, own_r x1] [(.int i), (.ref b1), (.ref a1)])) rfl (by rw [hml]; rfl) (Steps.refl _) (a := a1) (by rw [e7]; exact q10a) q10b (argsL := [(.ref b1), (.int i)]) (rest := []) (lenOf pd___Ljava_lang_Object_I_V rfl) rfl (by show 2 * 0 + _ ≤ _; exact Nat.le_of_eq rfl) (hb hby drem_21) (fun _ _ => ⟨rfl, e7, (by decide : 0 + 0 ≤ _), (by decide : 0 + 0 ≤ _)⟩)
  dsimp only [Pt.U, Pt.locs, Pt.cells, Pt.slots] at X10 l10 y10 z10 st10 hQ10
  subst l10 y10 z10
  obtain ⟨rfl, N10q, Kc10, Fm10, Fe10, Fz10, Va10⟩ := hQ10
  have N10 := Fr.app N5 N10q
  have f11_0 := E1.keep Kc10
  have Z10 : n0 ≤ T10.heap.size := Nat.le_trans Z0 Kc10.1
  have e10 : T10.heap = T10.heap := rfl
  have pre12 : own_G p e below T10 s₁ _ _ := fun t k => pre9 t (by
    refine st10.trans ?_
    refine XS.aloadN X10.here hx rfl (hb hby drem_24) rfl rfl ?_
    exact k)
  obtain ⟨fs, hr, hrun, hended, hW, hsame⟩ := X10.leave (v := some (.ref x1)) (fun h => by rw [Bd.returns] at h; cases h)
  refine ⟨_, _, pre12 _ ?_, hrun, hended, _, _, rfl, ?_, ⟨_, rfl⟩, hW, hsame.mono (by decide) (by decide)⟩
  · show Steps p.tables e below (T10.setTop (mkF m 25 #[own_r a1, own_i i, own_r b1, own_r x1] [(.ref x1)])) _
    jvm_step X10.here [X10.here.top, hx, (hb hby drem_25), X10.method', Bd.returns, Value.isRef, FieldType.isReference]
    first | (intro acts; rw [hr _ acts rfl rfl rfl]) | rw [hr _ _ rfl rfl rfl]
    exact Steps.refl _
  · show Q_rem Z a1 x1 b1 m1 n i z k1 xs h0 n0 _ T10.heap _
    skip
    exact ⟨rfl, N10, Kc10, Fm10, Fe10, Fz10, Va10⟩
theorem diti_0 : decode own_k20 0 = .ok (.aload_n 0, 1) := by decide +kernel
theorem diti_1 : decode own_k20 1 = .ok (.aload_n 1, 1) := by decide +kernel
theorem diti_2 : decode own_k20 2 = .ok (.putfield 1, 3) := by decide +kernel
theorem diti_5 : decode own_k20 5 = .ok (.aload_n 0, 1) := by decide +kernel
theorem diti_6 : decode own_k20 6 = .ok (.invokespecial 7, 3) := by decide +kernel
theorem diti_9 : decode own_k20 9 = .ok (.aload_n 0, 1) := by decide +kernel
theorem diti_10 : decode own_k20 10 = .ok (.iconst (-1), 1) := by decide +kernel
theorem diti_11 : decode own_k20 11 = .ok (.putfield 13, 3) := by decide +kernel
theorem diti_14 : decode own_k20 14 = .ok (.aload_n 0, 1) := by decide +kernel
theorem diti_15 : decode own_k20 15 = .ok (.aload_n 0, 1) := by decide +kernel
theorem diti_16 : decode own_k20 16 = .ok (.getfield 1, 3) := by decide +kernel
theorem diti_19 : decode own_k20 19 = .ok (.getfield 17, 3) := by decide +kernel
theorem diti_22 : decode own_k20 22 = .ok (.putfield 22, 3) := by decide +kernel
theorem diti_25 : decode own_k20 25 = .ok (.return_, 1) := by decide +kernel
theorem pn_iti : plainName "java/util/ArrayList$Itr" = true := by first | (simp [plainName, overriddenIn]; done) | decide +kernel
theorem ef_iti (m : MethodId) (t1 : Addr) (a1 : Addr) : entryFrame m #[(.ref t1), (.ref a1)] 2 = (mkF m 0 #[own_r t1, own_r a1] []) := by first | (simp [entryFrame, mkF, argsToLocals, Value.category]; done) | rfl
def Q_iti (Z : State) (t1 a1 : Addr) (m1 : Int32) (h0 : Heap) (n0 : Nat) (v : Option Value) (h : Heap) (L : List Loc) : Prop := v = none ∧ Fr n0 L ∧ Keep h0 h [t1] ∧ Fld Z h t1 "java/util/ArrayList$Itr" "this$0" "Ljava/util/ArrayList;" (.ref a1) ∧ Fld Z h t1 "java/util/ArrayList$Itr" "lastRet" "I" (.int (-1 : Int32)) ∧ Fld Z h t1 "java/util/ArrayList$Itr" "expectedModCount" "I" (.int m1) ∧ Fld Z h t1 "java/util/ArrayList$Itr" "cursor" "I" (.int (0 : Int32))
theorem rm_iti (l : Launch) (Z : State) (a0 : Array Value) (hw : own_W a0 Z) (ws : List Jvm.Cond) (t1 a1 : Addr) (m1 : Int32) (h0 : Heap) (n0 : Nat) (Z0 : n0 ≤ h0.size) (ET : Exa Z h0 t1 "java/util/ArrayList$Itr") (J1 : Fld Z h0 t1 "java/util/ArrayList$Itr" "this$0" "Ljava/util/ArrayList;" .null) (J2 : Fld Z h0 t1 "java/util/ArrayList$Itr" "lastRet" "I" (.int (0 : Int32))) (J3 : Fld Z h0 t1 "java/util/ArrayList$Itr" "expectedModCount" "I" (.int (0 : Int32))) (J4 : Fld Z h0 t1 "java/util/ArrayList$Itr" "cursor" "I" (.int (0 : Int32))) (F1 : Fld Z h0 a1 "java/util/AbstractList" "modCount" "I" (.int m1)) (g_t1 : n0 ≤ t1) (ne_t1_a1 : t1 ≠ a1) :
    own_M l Z h0 ws own_y39 jdk_49_method_1_code 2 none (⟨1, 0, 0, 12⟩ : Room) #[(.ref t1), (.ref a1)] (Q_iti Z t1 a1 m1 h0 n0) := by
  refine MetFree.of_bodySF (plainFor_of_name pn_iti) hisR ?_
  intro p e s m args below meth c s₁ Bd hml0 hP hK
  obtain ⟨rfl, hZ, hh⟩ := hP
  have hx := Bd.exec
  have hby := Bd.bytes
  have hml : c.maxLocals = 2 := hml0
  have hown : s.vm.findClass "java/util/ArrayList$Itr" = some m.cls := findClass_of_methodNamed Bd.named
  have hnm := (name_of_methodNamed Bd.named Bd.method).1
  have X0 : Stand p l e (⟨1, 0, 0, 12⟩ : Room) s m #[(.ref t1), (.ref a1)] below meth c s₁ [] 0 0 := Stand.of_body Bd
  have e0 : s₁.heap = h0 := by rw [← hh, Bd.state]; rfl
  have N0 := Fr.nil n0
  have pre0 : ∀ t, Steps p.tables e below (s₁.setTop (mkF m 0 #[own_r t1, own_r a1] [])) t → Steps p.tables e below (s₁.setTop (entryFrame m #[(.ref t1), (.ref a1)] 2)) t := fun t k => castTop (ef_iti m t1 a1) k
  have K2 : Keep h0 h0 [t1] := Keep.refl h0 [t1]
  have pre3 : own_G p e below s₁ s₁ _ _ := fun t k => pre0 t (by
    refine XS.aloadN X0.here hx rfl (hb hby diti_0) rfl rfl ?_
    refine XS.aloadN X0.here hx rfl (hb hby diti_1) rfl rfl ?_
    exact k)
  obtain ⟨T4, h4, X4, e4, W4, st4⟩ := putF X0 hx hZ hown (host := "") (Or.inl (own_h hw 161 rfl)) Via.refl e0 J1 ET (Or.inr ⟨(own_h hw 162 rfl), rfl, hnm⟩) (own_h hw 155 rfl) (ty := (.object "java/util/ArrayList")) (by decide) rfl rfl (g := (mkF m 2 #[own_r t1, own_r a1] [(.ref a1), (.ref t1)])) rfl rfl (hb hby diti_2)
  have F4 := J1.same W4
  have N4 := Fr.snoc X4 N0 g_t1
  have f5_0 := ET.wr W4
  have f5_2 := J2.other W4 (Or.inr (own_sn (own_l165 hw) (own_l162 hw) (by decide)))
  have f5_3 := J3.other W4 (Or.inr (own_sn (own_l169 hw) (own_l162 hw) (by decide)))
  have f5_4 := J4.other W4 (Or.inr (own_sn (own_l180 hw) (own_l162 hw) (by decide)))
  have f5_5 := F1.other W4 (Or.inl ne_t1_a1.symm)
  have K6 := K2.wr W4 (Or.inl (List.mem_of_getElem? (i := 0) rfl))
  have Z4 : n0 ≤ h4.size := Nat.le_trans Z0 (Keep.of_wr W4).1
  have pre7 : own_G p e below T4 s₁ _ _ := fun t k => pre3 t (by
    refine st4 _ ?_
    refine XS.aloadN X4.here hx rfl (hb hby diti_5) rfl rfl ?_
    exact k)
  obtain ⟨T8, X8, e8, st8⟩ := initO X4 hx hZ hown (own_h hw 163 rfl) (own_h hw 20 rfl) (own_h hw 21 rfl) e4 (g := (mkF m 6 #[own_r t1, own_r a1] [(.ref t1)])) rfl (by rw [hml]; rfl) rfl (hb hby diti_6) (by decide) (W := 0) (by show 2 * 0 + _ ≤ _; exact Nat.le_of_eq rfl) (by decide)
  have pre9 : own_G p e below T8 s₁ _ _ := fun t k => pre7 t (by
    refine st8 _ ?_
    refine XS.aloadN X8.here hx rfl (hb hby diti_9) rfl rfl ?_
    refine XS.iconst X8.here hx rfl (hb hby diti_10) ?_
    exact k)
  obtain ⟨T10, h10, X10, e10, W10, st10⟩ := putF X8 hx hZ hown (host := "") (Or.inl (own_h hw 164 rfl)) Via.refl e8 f5_2 f5_0 (Or.inl (own_h hw 165 rfl)) (own_h hw 155 rfl) (ty := .int) (by decide) rfl rfl (g := (mkF m 11 #[own_r t1, own_r a1] [(.int (-1 : Int32)), (.ref t1)])) rfl rfl (hb hby diti_11)
  have F10 := f5_2.same W10
  have N10 := Fr.snoc X10 N4 g_t1
  have f11_0 := f5_0.wr W10
  have f11_2 := f5_3.other W10 (Or.inr (own_sn (own_l169 hw) (own_l165 hw) (by decide)))
  have f11_3 := f5_4.other W10 (Or.inr (own_sn (own_l180 hw) (own_l165 hw) (by decide)))
  have f11_4 := f5_5.other W10 (Or.inl ne_t1_a1.symm)
  have f11_5 := F4.other W10 (Or.inr (own_sn (own_l162 hw) (own_l165 hw) (by decide)))
  have K12 := K6.wr W10 (Or.inl (List.mem_of_getElem? (i := 0) rfl))
  have Z10 : n0 ≤ h10.size := Nat.le_trans Z4 (Keep.of_wr W10).1
  have pre13 : own_G p e below T10 s₁ _ _ := fun t k => pre9 t (by
    refine st10 _ ?_
    refine XS.aloadN X10.here hx rfl (hb hby diti_14) rfl rfl ?_
    refine XS.aloadN X10.here hx rfl (hb hby diti_15) rfl rfl ?_
    exact k)
  obtain ⟨T14, X14, e14, st14⟩ := getF X10 hx hZ hown (host := "") (Or.inl (own_h hw 161 rfl)) Via.refl e10 f11_5 (g := (mkF m 16 #[own_r t1, own_r a1] [(.ref t1), (.ref t1)])) rfl rfl (hb hby diti_16)
  have pre15 : own_G p e below T14 s₁ _ _ := fun t k => pre13 t (by
    refine st14 _ ?_
    exact k)
  obtain ⟨T16, X16, e16, st16⟩ := getF X14 hx hZ hown (host := "") (Or.inl (own_h hw 166 rfl)) (Via.of (own_h hw 167 rfl)) e14 f11_4 (g := (mkF m 19 #[own_r t1, own_r a1] [(.ref a1), (.ref t1)])) rfl rfl (hb hby diti_19)
  have pre17 : own_G p e below T16 s₁ _ _ := fun t k => pre15 t (by
    refine st16 _ ?_
    exact k)
  obtain ⟨T18, h18, X18, e18, W18, st18⟩ := putF X16 hx hZ hown (host := "") (Or.inl (own_h hw 168 rfl)) Via.refl e16 f11_2 f11_0 (Or.inl (own_h hw 169 rfl)) (own_h hw 155 rfl) (ty := .int) (by decide) rfl rfl (g := (mkF m 22 #[own_r t1, own_r a1] [(.int m1), (.ref t1)])) rfl rfl (hb hby diti_22)
  have F18 := f11_2.same W18
  have N18 := Fr.snoc X18 N10 g_t1
  have f19_0 := f11_0.wr W18
  have f19_2 := f11_3.other W18 (Or.inr (own_sn (own_l180 hw) (own_l169 hw) (by decide)))
  have f19_3 := f11_4.other W18 (Or.inl ne_t1_a1.symm)
  have f19_4 := f11_5.other W18 (Or.inr (own_sn (own_l162 hw) (own_l169 hw) (by decide)))
  have f19_5 := F10.other W18 (Or.inr (own_sn (own_l165 hw) (own_l169 hw) (by decide)))
  have K20 := K12.wr W18 (Or.inl (List.mem_of_getElem? (i := 0) rfl))
  have Z18 : n0 ≤ h18.size := Nat.le_trans Z10 (Keep.of_wr W18).1
  have pre21 : own_G p e below T18 s₁ _ _ := fun t k => pre17 t (by
    refine st18 _ ?_
    exact k)
  obtain ⟨fs, hr, hrun, hended, hW, hsame⟩ := X18.leave (v := none) (fun _ => rfl)
  refine ⟨_, _, pre21 _ ?_, hrun, hended, _, _, rfl, ?_, ⟨_, rfl⟩, hW, hsame.mono (by decide) (by decide)⟩
  · exact X18.returnOut hx Bd.returns (hb hby diti_25) hr
  · show Q_iti Z t1 a1 m1 h0 n0 _ T18.heap _
    rw [e18]
    exact ⟨rfl, N18, K20, f19_4, f19_5, F18, f19_2⟩
theorem ditr_0 : decode jdk_38_method_55_code 0 = .ok (.new 267, 3) := by decide +kernel
theorem ditr_3 : decode jdk_38_method_55_code 3 = .ok (.dup, 1) := by decide +kernel
theorem ditr_4 : decode jdk_38_method_55_code 4 = .ok (.aload_n 0, 1) := by decide +kernel
theorem ditr_5 : decode jdk_38_method_55_code 5 = .ok (.invokespecial 269, 3) := by decide +kernel
theorem ditr_8 : decode jdk_38_method_55_code 8 = .ok (.areturn, 1) := by decide +kernel
theorem pd__Ljava_util_ArrayList__V : parseMethodDescriptor "(Ljava/util/ArrayList;)V" = some ⟨[(.object "java/util/ArrayList")], none⟩ := by decide +kernel
theorem ef_itr (m : MethodId) (a1 : Addr) : entryFrame m #[(.ref a1)] 1 = (mkF m 0 #[own_r a1] []) := by first | (simp [entryFrame, mkF, argsToLocals, Value.category]; done) | rfl
def Q_itr (Z : State) (a1 : Addr) (m1 : Int32) (h0 : Heap) (n0 : Nat) (v : Option Value) (h : Heap) (L : List Loc) : Prop := ∃ (t1 : Addr), v = some (.ref t1) ∧ Fr n0 L ∧ Keep h0 h [] ∧ n0 ≤ t1 ∧ h0.size ≤ t1 ∧ Exa Z h t1 "java/util/ArrayList$Itr" ∧ Fld Z h t1 "java/util/ArrayList$Itr" "this$0" "Ljava/util/ArrayList;" (.ref a1) ∧ Fld Z h t1 "java/util/ArrayList$Itr" "lastRet" "I" (.int (-1 : Int32)) ∧ Fld Z h t1 "java/util/ArrayList$Itr" "expectedModCount" "I" (.int m1) ∧ Fld Z h t1 "java/util/ArrayList$Itr" "cursor" "I" (.int (0 : Int32))
theorem rm_itr (l : Launch) (Z : State) (a0 : Array Value) (hw : own_W a0 Z) (ws : List Jvm.Cond) (a1 : Addr) (m1 : Int32) (h0 : Heap) (n0 : Nat) (Z0 : n0 ≤ h0.size) (F1 : Fld Z h0 a1 "java/util/AbstractList" "modCount" "I" (.int m1)) :
    own_M l Z h0 ws own_y40 jdk_38_method_55_code 1 (some (.object "java/util/Iterator")) (⟨2, 1, 4, 26⟩ : Room) #[(.ref a1)] (Q_itr Z a1 m1 h0 n0) := by
  refine MetFree.of_bodySF (plainFor_of_name pn_ali) hisR ?_
  intro p e s m args below meth c s₁ Bd hml0 hP hK
  obtain ⟨rfl, hZ, hh⟩ := hP
  have hx := Bd.exec
  have hby := Bd.bytes
  have hml : c.maxLocals = 1 := hml0
  have hown : s.vm.findClass "java/util/ArrayList" = some m.cls := findClass_of_methodNamed Bd.named
  have hnm := (name_of_methodNamed Bd.named Bd.method).1
  have X0 : Stand p l e (⟨2, 1, 4, 26⟩ : Room) s m #[(.ref a1)] below meth c s₁ [] 0 0 := Stand.of_body Bd
  have e0 : s₁.heap = h0 := by rw [← hh, Bd.state]; rfl
  have N0 := Fr.nil n0
  have pre0 : ∀ t, Steps p.tables e below (s₁.setTop (mkF m 0 #[own_r a1] [])) t → Steps p.tables e below (s₁.setTop (entryFrame m #[(.ref a1)] 1)) t := fun t k => castTop (ef_itr m a1) k
  have K2 : Keep h0 h0 [] := Keep.refl h0 []
  obtain ⟨T3, h3, X3, e3, E3, A3, D3, -, st3⟩ := newO X0 hx hZ hown (own_h hw 154 rfl) (own_h hw 155 rfl) (own_h hw 156 rfl) e0 (g := (mkF m 0 #[own_r a1] [])) rfl (hb hby ditr_0) (by decide) (by decide)
  obtain ⟨b3, g3⟩ : ∃ z, z = h0.size := ⟨_, rfl⟩
  rw [← g3] at A3 D3 st3
  have ne_a1_b3 : a1 ≠ b3 := Nat.ne_of_lt (Nat.lt_of_lt_of_eq F1.lt g3.symm)
  have g_b3 : n0 ≤ b3 := Nat.le_trans Z0 (Nat.le_of_eq g3.symm)
  have sz_b3 : h0.size ≤ b3 := Nat.le_trans K2.1 (Nat.le_of_eq g3.symm)
  have Z3 : n0 ≤ h3.size := Nat.le_trans Z0 E3.1
  have f4_0 := F1.ext E3
  have K5 := K2.ext E3
  have F3_this_0 : Fld Z h3 b3 "java/util/ArrayList$Itr" "this$0" "Ljava/util/ArrayList;" .null := D3 (Or.inr (own_h hw 162 rfl)) (ty := (.object "java/util/ArrayList")) (by decide)
  have F3_lastRet : Fld Z h3 b3 "java/util/ArrayList$Itr" "lastRet" "I" (.int (0 : Int32)) := D3 (Or.inl (own_h hw 165 rfl)) (ty := .int) (by decide)
  have F3_expectedModCount : Fld Z h3 b3 "java/util/ArrayList$Itr" "expectedModCount" "I" (.int (0 : Int32)) := D3 (Or.inl (own_h hw 169 rfl)) (ty := .int) (by decide)
  have F3_cursor : Fld Z h3 b3 "java/util/ArrayList$Itr" "cursor" "I" (.int (0 : Int32)) := D3 (Or.inl (own_h hw 180 rfl)) (ty := .int) (by decide)
  have pre6 : own_G p e below T3 s₁ _ _ := fun t k => pre0 t (by
    refine st3 _ ?_
    refine XS.dup X3.here hx rfl (hb hby ditr_3) rfl rfl ?_
    refine XS.aloadN X3.here hx rfl (hb hby ditr_4) rfl rfl ?_
    exact k)
  obtain ⟨_, _, ⟨T7, L7, kk7, nn7⟩, -, X7, ⟨Lc7, hQ7, l7, y7, z7⟩, st7⟩ := X3.specialBack hx (y := own_y39) rfl hown (mvT hZ (own_h hw 157 rfl)) (mvT hZ (own_h hw 158 rfl)) (mvT hZ (own_h hw 160 rfl)) (by decide) (backOf (W := 1) (rm_iti l Z a0 hw [] b3 a1 m1 h3 n0 Z3 A3 F3_this_0 F3_lastRet F3_expectedModCount F3_cursor f4_0 g_b3 ne_a1_b3.symm) hZ (own_h hw 160 rfl) (own_h hw 156 rfl) (by decide) (by decide)) (g := (mkF m 5 #[own_r a1] [(.ref a1), (.ref b3), (.ref b3)])) rfl (by rw [hml]; rfl) (Steps.refl _) (a := b3) (argsL := [(.ref a1)]) (rest := [(.ref b3)]) (lenOf pd__Ljava_util_ArrayList__V rfl) rfl (by show 2 * 0 + _ ≤ _; exact Nat.le_of_eq rfl) (hb hby ditr_5) (fun _ _ => ⟨rfl, e3, (by decide : 1 + 0 ≤ _), (by decide : 4 + 0 ≤ _)⟩)
  dsimp only [Pt.U, Pt.locs, Pt.cells, Pt.slots] at X7 l7 y7 z7 st7 hQ7
  subst l7 y7 z7
  obtain ⟨rfl, N7q, Kc7, Ta7, Tb7, Tc7, Td7⟩ := hQ7
  have N7 := Fr.app N0 N7q
  have f8_0 := f4_0.keep Kc7 (own_nm1 ne_a1_b3)
  have f8_1 := A3.keep Kc7
  have K9 := K5.trans Kc7 (fun x hx => by cases List.mem_singleton.mp hx; exact (Or.inr sz_b3))
  have Z7 : n0 ≤ T7.heap.size := Nat.le_trans Z3 Kc7.1
  have e7 : T7.heap = T7.heap := rfl
  have pre10 : own_G p e below T7 s₁ _ _ := fun t k => pre6 t (by
    refine st7.trans ?_
    exact k)
  obtain ⟨fs, hr, hrun, hended, hW, hsame⟩ := X7.leave (v := some (.ref b3)) (fun h => by rw [Bd.returns] at h; cases h)
  refine ⟨_, _, pre10 _ ?_, hrun, hended, _, _, rfl, ?_, ⟨_, rfl⟩, hW, hsame.mono (by decide) (by decide)⟩
  · show Steps p.tables e below (T7.setTop (mkF m 8 #[own_r a1] [(.ref b3)])) _
    jvm_step X7.here [X7.here.top, hx, (hb hby ditr_8), X7.method', Bd.returns, Value.isRef, FieldType.isReference]
    first | (intro acts; rw [hr _ acts rfl rfl rfl]) | rw [hr _ _ rfl rfl rfl]
    exact Steps.refl _
  · show Q_itr Z a1 m1 h0 n0 _ T7.heap _
    skip
    exact ⟨b3, rfl, N7, K9, g_b3, sz_b3, f8_1, Ta7, Tb7, Tc7, Td7⟩
def own_hn (c n : Int32) : Int32 := if c = n then 0 else 1
theorem dhn_0 : decode own_k25 0 = .ok (.aload_n 0, 1) := by decide +kernel
theorem dhn_1 : decode own_k25 1 = .ok (.getfield 25, 3) := by decide +kernel
theorem dhn_4 : decode own_k25 4 = .ok (.aload_n 0, 1) := by decide +kernel
theorem dhn_5 : decode own_k25 5 = .ok (.getfield 1, 3) := by decide +kernel
theorem dhn_8 : decode own_k25 8 = .ok (.getfield 28, 3) := by decide +kernel
theorem dhn_11 : decode own_k25 11 = .ok (.if_icmp .eq 7, 3) := by decide +kernel
theorem dhn_14 : decode own_k25 14 = .ok (.iconst 1, 1) := by decide +kernel
theorem dhn_15 : decode own_k25 15 = .ok (.goto 4, 3) := by decide +kernel
theorem dhn_18 : decode own_k25 18 = .ok (.iconst 0, 1) := by decide +kernel
theorem dhn_19 : decode own_k25 19 = .ok (.ireturn, 1) := by decide +kernel
theorem ef_hn (m : MethodId) (t1 : Addr) : entryFrame m #[(.ref t1)] 1 = (mkF m 0 #[own_r t1] []) := by first | (simp [entryFrame, mkF, argsToLocals, Value.category]; done) | rfl
def Q_hn (Z : State) (t1 a1 : Addr) (cc n : Int32) (h0 : Heap) (n0 : Nat) (v : Option Value) (h : Heap) (L : List Loc) : Prop := v = some (.int (own_hn cc n)) ∧ Fr n0 L ∧ h = h0
theorem rm_hn (l : Launch) (Z : State) (a0 : Array Value) (hw : own_W a0 Z) (ws : List Jvm.Cond) (t1 a1 : Addr) (cc n : Int32) (h0 : Heap) (n0 : Nat) (Z0 : n0 ≤ h0.size) (J1 : Fld Z h0 t1 "java/util/ArrayList$Itr" "this$0" "Ljava/util/ArrayList;" (.ref a1)) (J4 : Fld Z h0 t1 "java/util/ArrayList$Itr" "cursor" "I" (.int cc)) (F3 : Fld Z h0 a1 "java/util/ArrayList" "size" "I" (.int n)) :
    own_M l Z h0 ws own_y26 jdk_49_method_2_code 1 (some .boolean) (⟨0, 0, 0, 0⟩ : Room) #[(.ref t1)] (Q_hn Z t1 a1 cc n h0 n0) := by
  refine MetFree.of_bodySF (plainFor_of_name pn_iti) hisR ?_
  intro p e s m args below meth c s₁ Bd hml0 hP hK
  obtain ⟨rfl, hZ, hh⟩ := hP
  have hx := Bd.exec
  have hby := Bd.bytes
  have hml : c.maxLocals = 1 := hml0
  have hown : s.vm.findClass "java/util/ArrayList$Itr" = some m.cls := findClass_of_methodNamed Bd.named
  have hnm := (name_of_methodNamed Bd.named Bd.method).1
  have X0 : Stand p l e (⟨0, 0, 0, 0⟩ : Room) s m #[(.ref t1)] below meth c s₁ [] 0 0 := Stand.of_body Bd
  have e0 : s₁.heap = h0 := by rw [← hh, Bd.state]; rfl
  have N0 := Fr.nil n0
  have pre0 : ∀ t, Steps p.tables e below (s₁.setTop (mkF m 0 #[own_r t1] [])) t → Steps p.tables e below (s₁.setTop (entryFrame m #[(.ref t1)] 1)) t := fun t k => castTop (ef_hn m t1) k
  have pre2 : own_G p e below s₁ s₁ _ _ := fun t k => pre0 t (by
    refine XS.aloadN X0.here hx rfl (hb hby dhn_0) rfl rfl ?_
    exact k)
  obtain ⟨T3, X3, e3, st3⟩ := getF X0 hx hZ hown (host := "") (Or.inl (own_h hw 179 rfl)) Via.refl e0 J4 (g := (mkF m 1 #[own_r t1] [(.ref t1)])) rfl rfl (hb hby dhn_1)
  have pre4 : own_G p e below T3 s₁ _ _ := fun t k => pre2 t (by
    refine st3 _ ?_
    refine XS.aloadN X3.here hx rfl (hb hby dhn_4) rfl rfl ?_
    exact k)
  obtain ⟨T5, X5, e5, st5⟩ := getF X3 hx hZ hown (host := "") (Or.inl (own_h hw 161 rfl)) Via.refl e3 J1 (g := (mkF m 5 #[own_r t1] [(.ref t1), (.int cc)])) rfl rfl (hb hby dhn_5)
  have pre6 : own_G p e below T5 s₁ _ _ := fun t k => pre4 t (by
    refine st5 _ ?_
    exact k)
  obtain ⟨T7, X7, e7, st7⟩ := getF X5 hx hZ hown (Or.inr (own_h hw 181 rfl)) Via.refl e5 F3 (g := (mkF m 8 #[own_r t1] [(.ref a1), (.int cc)])) rfl rfl (hb hby dhn_8)
  have pre8 : own_G p e below T7 s₁ _ _ := fun t k => pre6 t (by
    refine st7 _ ?_
    exact k)
  by_cases hc : cc = n
  · skip
    have hf : own_hn cc n = 0 := if_pos hc
    have pre9 : own_G p e below T7 s₁ _ _ := fun t k => pre8 t (by
      refine XS.icmpYes X7.here hx rfl (pc0 := 11) (pc' := 18) rfl (hb hby dhn_11) rfl (XT.ii_eq_t hc) (by decide) (by decide) ?_
      refine XS.iconst X7.here hx rfl (hb hby dhn_18) ?_
      exact k)
    obtain ⟨fs, hr, hrun, hended, hW, hsame⟩ := X7.leave (v := some (.int (0 : Int32))) (fun h => by rw [Bd.returns] at h; cases h)
    refine ⟨_, _, pre9 _ ?_, hrun, hended, _, _, rfl, ?_, ⟨_, rfl⟩, hW, hsame.mono (by decide) (by decide)⟩
    · exact retN X7 hx (t := .boolean) Bd.returns (by simp) (hb hby dhn_19) hr
    · show Q_hn Z t1 a1 cc n h0 n0 _ T7.heap _
      unfold Q_hn; rw [hf]
      rw [e7]
      exact ⟨rfl, N0, rfl⟩
  · skip
    have hf : own_hn cc n = 1 := if_neg hc
    have pre9 : own_G p e below T7 s₁ _ _ := fun t k => pre8 t (by
      refine XS.icmpNo X7.here hx rfl (hb hby dhn_11) rfl (XT.ii_eq_f hc) ?_
      refine XS.iconst X7.here hx rfl (hb hby dhn_14) ?_
      refine XS.goto X7.here hx rfl (pc0 := 15) (pc' := 19) rfl (hb hby dhn_15) (by decide) (by decide) ?_
      exact k)
    obtain ⟨fs, hr, hrun, hended, hW, hsame⟩ := X7.leave (v := some (.int (1 : Int32))) (fun h => by rw [Bd.returns] at h; cases h)
    refine ⟨_, _, pre9 _ ?_, hrun, hended, _, _, rfl, ?_, ⟨_, rfl⟩, hW, hsame.mono (by decide) (by decide)⟩
    · exact retN X7 hx (t := .boolean) Bd.returns (by simp) (hb hby dhn_19) hr
    · show Q_hn Z t1 a1 cc n h0 n0 _ T7.heap _
      unfold Q_hn; rw [hf]
      rw [e7]
      exact ⟨rfl, N0, rfl⟩
theorem dcfm_0 : decode own_k33 0 = .ok (.aload_n 0, 1) := by decide +kernel
theorem dcfm_1 : decode own_k33 1 = .ok (.getfield 1, 3) := by decide +kernel
theorem dcfm_4 : decode own_k33 4 = .ok (.getfield 17, 3) := by decide +kernel
theorem dcfm_7 : decode own_k33 7 = .ok (.aload_n 0, 1) := by decide +kernel
theorem dcfm_8 : decode own_k33 8 = .ok (.getfield 22, 3) := by decide +kernel
theorem dcfm_11 : decode own_k33 11 = .ok (.if_icmp .eq 11, 3) := by decide +kernel
theorem dcfm_22 : decode own_k33 22 = .ok (.return_, 1) := by decide +kernel
theorem ef_cfm (m : MethodId) (t1 : Addr) : entryFrame m #[(.ref t1)] 1 = (mkF m 0 #[own_r t1] []) := by first | (simp [entryFrame, mkF, argsToLocals, Value.category]; done) | rfl
def Q_cfm (Z : State) (t1 a1 : Addr) (m1 : Int32) (h0 : Heap) (n0 : Nat) (v : Option Value) (h : Heap) (L : List Loc) : Prop := v = none ∧ Fr n0 L ∧ h = h0
theorem rm_cfm (l : Launch) (Z : State) (a0 : Array Value) (hw : own_W a0 Z) (ws : List Jvm.Cond) (t1 a1 : Addr) (m1 : Int32) (h0 : Heap) (n0 : Nat) (Z0 : n0 ≤ h0.size) (J1 : Fld Z h0 t1 "java/util/ArrayList$Itr" "this$0" "Ljava/util/ArrayList;" (.ref a1)) (J3 : Fld Z h0 t1 "java/util/ArrayList$Itr" "expectedModCount" "I" (.int m1)) (F1 : Fld Z h0 a1 "java/util/AbstractList" "modCount" "I" (.int m1)) :
    own_M l Z h0 ws own_y27 jdk_49_method_6_code 1 none (⟨0, 0, 0, 0⟩ : Room) #[(.ref t1)] (Q_cfm Z t1 a1 m1 h0 n0) := by
  refine MetFree.of_bodySF (plainFor_of_name pn_iti) hisR ?_
  intro p e s m args below meth c s₁ Bd hml0 hP hK
  obtain ⟨rfl, hZ, hh⟩ := hP
  have hx := Bd.exec
  have hby := Bd.bytes
  have hml : c.maxLocals = 1 := hml0
  have hown : s.vm.findClass "java/util/ArrayList$Itr" = some m.cls := findClass_of_methodNamed Bd.named
  have hnm := (name_of_methodNamed Bd.named Bd.method).1
  have X0 : Stand p l e (⟨0, 0, 0, 0⟩ : Room) s m #[(.ref t1)] below meth c s₁ [] 0 0 := Stand.of_body Bd
  have e0 : s₁.heap = h0 := by rw [← hh, Bd.state]; rfl
  have N0 := Fr.nil n0
  have pre0 : ∀ t, Steps p.tables e below (s₁.setTop (mkF m 0 #[own_r t1] [])) t → Steps p.tables e below (s₁.setTop (entryFrame m #[(.ref t1)] 1)) t := fun t k => castTop (ef_cfm m t1) k
  have pre2 : own_G p e below s₁ s₁ _ _ := fun t k => pre0 t (by
    refine XS.aloadN X0.here hx rfl (hb hby dcfm_0) rfl rfl ?_
    exact k)
  obtain ⟨T3, X3, e3, st3⟩ := getF X0 hx hZ hown (host := "") (Or.inl (own_h hw 161 rfl)) Via.refl e0 J1 (g := (mkF m 1 #[own_r t1] [(.ref t1)])) rfl rfl (hb hby dcfm_1)
  have pre4 : own_G p e below T3 s₁ _ _ := fun t k => pre2 t (by
    refine st3 _ ?_
    exact k)
  obtain ⟨T5, X5, e5, st5⟩ := getF X3 hx hZ hown (host := "") (Or.inl (own_h hw 166 rfl)) (Via.of (own_h hw 167 rfl)) e3 F1 (g := (mkF m 4 #[own_r t1] [(.ref a1)])) rfl rfl (hb hby dcfm_4)
  have pre6 : own_G p e below T5 s₁ _ _ := fun t k => pre4 t (by
    refine st5 _ ?_
    refine XS.aloadN X5.here hx rfl (hb hby dcfm_7) rfl rfl ?_
    exact k)
  obtain ⟨T7, X7, e7, st7⟩ := getF X5 hx hZ hown (host := "") (Or.inl (own_h hw 168 rfl)) Via.refl e5 J3 (g := (mkF m 8 #[own_r t1] [(.ref t1), (.int m1)])) rfl rfl (hb hby dcfm_8)
  have pre8 : own_G p e below T7 s₁ _ _ := fun t k => pre6 t (by
    refine st7 _ ?_
    refine XS.icmpYes X7.here hx rfl (pc0 := 11) (pc' := 22) rfl (hb hby dcfm_11) rfl (XT.ii_eq_t rfl) (by decide) (by decide) ?_
    exact k)
  obtain ⟨fs, hr, hrun, hended, hW, hsame⟩ := X7.leave (v := none) (fun _ => rfl)
  refine ⟨_, _, pre8 _ ?_, hrun, hended, _, _, rfl, ?_, ⟨_, rfl⟩, hW, hsame.mono (by decide) (by decide)⟩
  · exact X7.returnOut hx Bd.returns (hb hby dcfm_22) hr
  · show Q_cfm Z t1 a1 m1 h0 n0 _ T7.heap _
    rw [e7]
    exact ⟨rfl, N0, rfl⟩
theorem dnx_0 : decode own_k6 0 = .ok (.aload_n 0, 1) := by decide +kernel
theorem dnx_1 : decode own_k6 1 = .ok (.invokevirtual 31, 3) := by decide +kernel
theorem dnx_4 : decode own_k6 4 = .ok (.aload_n 0, 1) := by decide +kernel
theorem dnx_5 : decode own_k6 5 = .ok (.getfield 25, 3) := by decide +kernel
theorem dnx_8 : decode own_k6 8 = .ok (.istore_n 1, 1) := by decide +kernel
theorem dnx_9 : decode own_k6 9 = .ok (.iload_n 1, 1) := by decide +kernel
theorem dnx_10 : decode own_k6 10 = .ok (.aload_n 0, 1) := by decide +kernel
theorem dnx_11 : decode own_k6 11 = .ok (.getfield 1, 3) := by decide +kernel
theorem dnx_14 : decode own_k6 14 = .ok (.getfield 28, 3) := by decide +kernel
theorem dnx_17 : decode own_k6 17 = .ok (.if_icmp .lt 11, 3) := by decide +kernel
theorem dnx_28 : decode own_k6 28 = .ok (.aload_n 0, 1) := by decide +kernel
theorem dnx_29 : decode own_k6 29 = .ok (.getfield 1, 3) := by decide +kernel
theorem dnx_32 : decode own_k6 32 = .ok (.getfield 37, 3) := by decide +kernel
theorem dnx_35 : decode own_k6 35 = .ok (.astore_n 2, 1) := by decide +kernel
theorem dnx_36 : decode own_k6 36 = .ok (.iload_n 1, 1) := by decide +kernel
theorem dnx_37 : decode own_k6 37 = .ok (.aload_n 2, 1) := by decide +kernel
theorem dnx_38 : decode own_k6 38 = .ok (.arraylength, 1) := by decide +kernel
theorem dnx_39 : decode own_k6 39 = .ok (.if_icmp .lt 11, 3) := by decide +kernel
theorem dnx_50 : decode own_k6 50 = .ok (.aload_n 0, 1) := by decide +kernel
theorem dnx_51 : decode own_k6 51 = .ok (.iload_n 1, 1) := by decide +kernel
theorem dnx_52 : decode own_k6 52 = .ok (.iconst 1, 1) := by decide +kernel
theorem dnx_53 : decode own_k6 53 = .ok (.iadd, 1) := by decide +kernel
theorem dnx_54 : decode own_k6 54 = .ok (.putfield 25, 3) := by decide +kernel
theorem dnx_57 : decode own_k6 57 = .ok (.aload_n 2, 1) := by decide +kernel
theorem dnx_58 : decode own_k6 58 = .ok (.aload_n 0, 1) := by decide +kernel
theorem dnx_59 : decode own_k6 59 = .ok (.iload_n 1, 1) := by decide +kernel
theorem dnx_60 : decode own_k6 60 = .ok (.dup_x1, 1) := by decide +kernel
theorem dnx_61 : decode own_k6 61 = .ok (.putfield 13, 3) := by decide +kernel
theorem dnx_64 : decode own_k6 64 = .ok (.aaload, 1) := by decide +kernel
theorem dnx_65 : decode own_k6 65 = .ok (.areturn, 1) := by decide +kernel
theorem ef_nx (m : MethodId) (t1 : Addr) : entryFrame m #[(.ref t1)] 3 = (mkF m 0 #[own_r t1, .unset, .unset] []) := by first | (simp [entryFrame, mkF, argsToLocals, Value.category]; done) | rfl
def Q_nx (Z : State) (t1 a1 b1 x1 : Addr) (m1 cc c1 l1 n z : Int32) (k1 : ClassId) (xs : List Value) (h0 : Heap) (n0 : Nat) (v : Option Value) (h : Heap) (L : List Loc) : Prop := v = some (.ref x1) ∧ Fr n0 L ∧ Keep h0 h [t1] ∧ Fld Z h t1 "java/util/ArrayList$Itr" "this$0" "Ljava/util/ArrayList;" (.ref a1) ∧ Fld Z h t1 "java/util/ArrayList$Itr" "lastRet" "I" (.int cc) ∧ Fld Z h t1 "java/util/ArrayList$Itr" "expectedModCount" "I" (.int m1) ∧ Fld Z h t1 "java/util/ArrayList$Itr" "cursor" "I" (.int c1)
theorem rm_nx (l : Launch) (Z : State) (a0 : Array Value) (hw : own_W a0 Z) (ws : List Jvm.Cond) (t1 a1 b1 x1 : Addr) (m1 cc c1 l1 n z : Int32) (k1 : ClassId) (xs : List Value) (h0 : Heap) (n0 : Nat) (Z0 : n0 ≤ h0.size) (ET : Exa Z h0 t1 "java/util/ArrayList$Itr") (J1 : Fld Z h0 t1 "java/util/ArrayList$Itr" "this$0" "Ljava/util/ArrayList;" (.ref a1)) (J2 : Fld Z h0 t1 "java/util/ArrayList$Itr" "lastRet" "I" (.int l1)) (J3 : Fld Z h0 t1 "java/util/ArrayList$Itr" "expectedModCount" "I" (.int m1)) (J4 : Fld Z h0 t1 "java/util/ArrayList$Itr" "cursor" "I" (.int cc)) (F1 : Fld Z h0 a1 "java/util/AbstractList" "modCount" "I" (.int m1)) (F2 : Fld Z h0 a1 "java/util/ArrayList" "elementData" "[Ljava/lang/Object;" (.ref b1)) (F3 : Fld Z h0 a1 "java/util/ArrayList" "size" "I" (.int n)) (V1 : Arv Z h0 b1 k1 (.object "java/lang/Object") z xs .null) (g_t1 : n0 ≤ t1) (ne_t1_a1 : t1 ≠ a1) (ne_t1_b1 : t1 ≠ b1) (hcn : cc < n) (hin : ¬ cc < 0 ∧ cc < z) (hat : xs.getD cc.toNatClampNeg .null = .ref x1) (hc1 : cc + (1 : Int32) = c1)  :
    own_M l Z h0 ws own_y41 jdk_49_method_3_code 3 (some (.object "java/lang/Object")) (⟨1, 0, 0, 12⟩ : Room) #[(.ref t1)] (Q_nx Z t1 a1 b1 x1 m1 cc c1 l1 n z k1 xs h0 n0) := by
  refine MetFree.of_bodySF (plainFor_of_name pn_iti) hisR ?_
  intro p e s m args below meth c s₁ Bd hml0 hP hK
  obtain ⟨rfl, hZ, hh⟩ := hP
  have hx := Bd.exec
  have hby := Bd.bytes
  have hml : c.maxLocals = 3 := hml0
  have hown : s.vm.findClass "java/util/ArrayList$Itr" = some m.cls := findClass_of_methodNamed Bd.named
  have hnm := (name_of_methodNamed Bd.named Bd.method).1
  have X0 : Stand p l e (⟨1, 0, 0, 12⟩ : Room) s m #[(.ref t1)] below meth c s₁ [] 0 0 := Stand.of_body Bd
  have e0 : s₁.heap = h0 := by rw [← hh, Bd.state]; rfl
  have N0 := Fr.nil n0
  have pre0 : ∀ t, Steps p.tables e below (s₁.setTop (mkF m 0 #[own_r t1, .unset, .unset] [])) t → Steps p.tables e below (s₁.setTop (entryFrame m #[(.ref t1)] 3)) t := fun t k => castTop (ef_nx m t1) k
  have K2 : Keep h0 h0 [t1] := Keep.refl h0 [t1]
  have pre3 : own_G p e below s₁ s₁ _ _ := fun t k => pre0 t (by
    refine XS.aloadN X0.here hx rfl (hb hby dnx_0) rfl rfl ?_
    exact k)
  obtain ⟨cq4, kq4, q4a, q4b, q4c⟩ := isOf hZ e0 ET
  obtain ⟨_, _, ⟨T4, L4, kk4, nn4⟩, -, X4, ⟨Lc4, hQ4, l4, y4, z4⟩, st4⟩ := X0.virtualBack hx (y := own_y27) (z := own_y27) hown (mvT hZ (own_h hw 289 rfl)) (mvT hZ (own_h hw 290 rfl)) (notFace_of_selects (args := #[]) (mvT hZ (own_h hw 292 rfl))) (mvT hZ (own_h hw 292 rfl)) (mvT hZ (own_h hw 291 rfl)) (by decide) (backOf (W := 0) (rm_cfm l Z a0 hw [] t1 a1 m1 h0 n0 Z0 J1 J3 F1) hZ (own_h hw 293 rfl) (own_h hw 156 rfl) (by decide) (by decide)) q4a q4c (g := (mkF m 1 #[own_r t1, .unset, .unset] [(.ref t1)])) rfl (by rw [hml]; rfl) (Steps.refl _) (argsL := []) (rest := []) (lenOf pd___V rfl) rfl (by show 2 * 0 + _ ≤ _; exact Nat.le_of_eq rfl) (hb hby dnx_1) (fun _ _ => ⟨rfl, e0, (by decide : 0 + 0 ≤ _), (by decide : 0 + 0 ≤ _)⟩)
  dsimp only [Pt.U, Pt.locs, Pt.cells, Pt.slots] at X4 l4 y4 z4 st4 hQ4
  subst l4 y4 z4
  obtain ⟨rfl, N4q, eq4⟩ := hQ4
  have N4 := Fr.app N0 N4q
  have pre5 : own_G p e below T4 s₁ _ _ := fun t k => pre3 t (by
    refine st4.trans ?_
    refine XS.aloadN X4.here hx rfl (hb hby dnx_4) rfl rfl ?_
    exact k)
  obtain ⟨T6, X6, e6, st6⟩ := getF X4 hx hZ hown (host := "") (Or.inl (own_h hw 179 rfl)) Via.refl eq4 J4 (g := (mkF m 5 #[own_r t1, .unset, .unset] [(.ref t1)])) rfl rfl (hb hby dnx_5)
  have pre7 : own_G p e below T6 s₁ _ _ := fun t k => pre5 t (by
    refine st6 _ ?_
    refine XS.istoreN X6.here hx rfl (hb hby dnx_8) rfl (l' := #[own_r t1, own_i cc, .unset]) rfl ?_
    refine XS.iloadN X6.here hx rfl (hb hby dnx_9) rfl ?_
    refine XS.aloadN X6.here hx rfl (hb hby dnx_10) rfl rfl ?_
    exact k)
  obtain ⟨T8, X8, e8, st8⟩ := getF X6 hx hZ hown (host := "") (Or.inl (own_h hw 161 rfl)) Via.refl e6 J1 (g := (mkF m 11 #[own_r t1, own_i cc, .unset] [(.ref t1), (.int cc)])) rfl rfl (hb hby dnx_11)
  have pre9 : own_G p e below T8 s₁ _ _ := fun t k => pre7 t (by
    refine st8 _ ?_
    exact k)
  obtain ⟨T10, X10, e10, st10⟩ := getF X8 hx hZ hown (Or.inr (own_h hw 181 rfl)) Via.refl e8 F3 (g := (mkF m 14 #[own_r t1, own_i cc, .unset] [(.ref a1), (.int cc)])) rfl rfl (hb hby dnx_14)
  have pre11 : own_G p e below T10 s₁ _ _ := fun t k => pre9 t (by
    refine st10 _ ?_
    refine XS.icmpYes X10.here hx rfl (pc0 := 17) (pc' := 28) rfl (hb hby dnx_17) rfl (XT.ii_lt_t hcn) (by decide) (by decide) ?_
    refine XS.aloadN X10.here hx rfl (hb hby dnx_28) rfl rfl ?_
    exact k)
  obtain ⟨T12, X12, e12, st12⟩ := getF X10 hx hZ hown (host := "") (Or.inl (own_h hw 161 rfl)) Via.refl e10 J1 (g := (mkF m 29 #[own_r t1, own_i cc, .unset] [(.ref t1)])) rfl rfl (hb hby dnx_29)
  have pre13 : own_G p e below T12 s₁ _ _ := fun t k => pre11 t (by
    refine st12 _ ?_
    exact k)
  obtain ⟨T14, X14, e14, st14⟩ := getF X12 hx hZ hown (host := "") (Or.inl (own_h hw 294 rfl)) Via.refl e12 F2 (g := (mkF m 32 #[own_r t1, own_i cc, .unset] [(.ref a1)])) rfl rfl (hb hby dnx_32)
  obtain ⟨cl15, Ar15, kc15, S15, M15, H15, G15⟩ := id V1
  have pre16 : own_G p e below T14 s₁ _ _ := fun t k => pre13 t (by
    refine st14 _ ?_
    refine XS.astoreN X14.here hx rfl (hb hby dnx_35) rfl rfl (l' := #[own_r t1, own_i cc, own_r b1]) rfl ?_
    refine XS.iloadN X14.here hx rfl (hb hby dnx_36) rfl ?_
    refine XS.aloadN X14.here hx rfl (hb hby dnx_37) rfl rfl ?_
    refine X14.arraylength hx (cell := cl15) (by rw [e14]; exact Ar15.1) (State.isArrayOf_alike hZ.alike Ar15.2.1) (g := (mkF m 38 #[own_r t1, own_i cc, own_r b1] [(.ref b1), (.int cc)])) rfl (rest := [(.int cc)]) rfl (hb hby dnx_38) _ ?_
    rw [len_of S15 M15]
    refine XS.icmpYes X14.here hx rfl (pc0 := 39) (pc' := 50) rfl (hb hby dnx_39) rfl (XT.ii_lt_t hin.2) (by decide) (by decide) ?_
    refine XS.aloadN X14.here hx rfl (hb hby dnx_50) rfl rfl ?_
    refine XS.iloadN X14.here hx rfl (hb hby dnx_51) rfl ?_
    refine XS.iconst X14.here hx rfl (hb hby dnx_52) ?_
    refine XS.iadd X14.here hx rfl (hb hby dnx_53) rfl ?_
    show Steps p.tables e below (T14.setTop (mkF m 54 #[own_r t1, own_i cc, own_r b1] [(.int (cc + (1 : Int32))), (.ref t1)])) _
    rw [hc1]
    exact k)
  obtain ⟨T17, h17, X17, e17, W17, st17⟩ := putF X14 hx hZ hown (host := "") (Or.inl (own_h hw 179 rfl)) Via.refl e14 J4 ET (Or.inl (own_h hw 180 rfl)) (own_h hw 155 rfl) (ty := .int) (by decide) rfl rfl (g := (mkF m 54 #[own_r t1, own_i cc, own_r b1] [(.int c1), (.ref t1)])) rfl rfl (hb hby dnx_54)
  have F17 := J4.same W17
  have N17 := Fr.snoc X17 N4 g_t1
  have f18_0 := ET.wr W17
  have f18_1 := J1.other W17 (Or.inr (own_sn (own_l162 hw) (own_l180 hw) (by decide)))
  have f18_2 := J2.other W17 (Or.inr (own_sn (own_l165 hw) (own_l180 hw) (by decide)))
  have f18_3 := J3.other W17 (Or.inr (own_sn (own_l169 hw) (own_l180 hw) (by decide)))
  have f18_5 := F1.other W17 (Or.inl ne_t1_a1.symm)
  have f18_6 := F2.other W17 (Or.inl ne_t1_a1.symm)
  have f18_7 := F3.other W17 (Or.inl ne_t1_a1.symm)
  have f18_8 := V1.other W17 ne_t1_b1.symm
  have K19 := K2.wr W17 (Or.inl (List.mem_of_getElem? (i := 0) rfl))
  have Z17 : n0 ≤ h17.size := Nat.le_trans Z0 (Keep.of_wr W17).1
  have pre20 : own_G p e below T17 s₁ _ _ := fun t k => pre16 t (by
    refine st17 _ ?_
    refine XS.aloadN X17.here hx rfl (hb hby dnx_57) rfl rfl ?_
    refine XS.aloadN X17.here hx rfl (hb hby dnx_58) rfl rfl ?_
    refine XS.iloadN X17.here hx rfl (hb hby dnx_59) rfl ?_
    refine XT.dupX1 X17.here hx rfl (hb hby dnx_60) rfl rfl rfl ?_
    exact k)
  obtain ⟨T21, h21, X21, e21, W21, st21⟩ := putF X17 hx hZ hown (host := "") (Or.inl (own_h hw 164 rfl)) Via.refl e17 f18_2 f18_0 (Or.inl (own_h hw 165 rfl)) (own_h hw 155 rfl) (ty := .int) (by decide) rfl rfl (g := (mkF m 61 #[own_r t1, own_i cc, own_r b1] [(.int cc), (.ref t1), (.int cc), (.ref b1)])) rfl rfl (hb hby dnx_61)
  have F21 := f18_2.same W21
  have N21 := Fr.snoc X21 N17 g_t1
  have f22_0 := f18_0.wr W21
  have f22_1 := f18_1.other W21 (Or.inr (own_sn (own_l162 hw) (own_l165 hw) (by decide)))
  have f22_3 := f18_3.other W21 (Or.inr (own_sn (own_l169 hw) (own_l165 hw) (by decide)))
  have f22_4 := f18_5.other W21 (Or.inl ne_t1_a1.symm)
  have f22_5 := f18_6.other W21 (Or.inl ne_t1_a1.symm)
  have f22_6 := f18_7.other W21 (Or.inl ne_t1_a1.symm)
  have f22_7 := f18_8.other W21 ne_t1_b1.symm
  have f22_8 := F17.other W21 (Or.inr (own_sn (own_l180 hw) (own_l165 hw) (by decide)))
  have K23 := K19.wr W21 (Or.inl (List.mem_of_getElem? (i := 0) rfl))
  have Z21 : n0 ≤ h21.size := Nat.le_trans Z17 (Keep.of_wr W21).1
  obtain ⟨cl24, Ar24, kc24, S24, M24, H24, G24⟩ := id f22_7
  have hin24 := inb_of S24 (j := cc) hin
  have hat24 : cl24.slots[(cc).toNatClampNeg]? = some (.ref x1) := H24.at hin24 hat
  have pre25 : own_G p e below T21 s₁ _ _ := fun t k => pre20 t (by
    refine st21 _ ?_
    refine X21.aaload hx (j := cc) (v := (.ref x1)) (by rw [e21]; exact Ar24.1) (State.isArrayOf_alike hZ.alike Ar24.2.1) rfl Ar24.2.2 hin24 hat24 (g := (mkF m 64 #[own_r t1, own_i cc, own_r b1] [(.int cc), (.ref b1)])) rfl rfl (hb hby dnx_64) _ ?_
    exact k)
  obtain ⟨fs, hr, hrun, hended, hW, hsame⟩ := X21.leave (v := some (.ref x1)) (fun h => by rw [Bd.returns] at h; cases h)
  refine ⟨_, _, pre25 _ ?_, hrun, hended, _, _, rfl, ?_, ⟨_, rfl⟩, hW, hsame.mono (by decide) (by decide)⟩
  · show Steps p.tables e below (T21.setTop (mkF m 65 #[own_r t1, own_i cc, own_r b1] [(.ref x1)])) _
    jvm_step X21.here [X21.here.top, hx, (hb hby dnx_65), X21.method', Bd.returns, Value.isRef, FieldType.isReference]
    first | (intro acts; rw [hr _ acts rfl rfl rfl]) | rw [hr _ _ rfl rfl rfl]
    exact Steps.refl _
  · show Q_nx Z t1 a1 b1 x1 m1 cc c1 l1 n z k1 xs h0 n0 _ T21.heap _
    rw [e21]
    exact ⟨rfl, N21, K23, f22_1, F21, f22_3, f22_8⟩
theorem drnn_0 : decode jdk_31_method_10_code 0 = .ok (.aload_n 0, 1) := by decide +kernel
theorem drnn_1 : decode jdk_31_method_10_code 1 = .ok (.ifnonnull 11, 3) := by decide +kernel
theorem drnn_12 : decode jdk_31_method_10_code 12 = .ok (.aload_n 0, 1) := by decide +kernel
theorem drnn_13 : decode jdk_31_method_10_code 13 = .ok (.areturn, 1) := by decide +kernel
theorem ef_rnn (m : MethodId) (x1 : Addr) : entryFrame m #[(.ref x1)] 1 = (mkF m 0 #[own_r x1] []) := by first | (simp [entryFrame, mkF, argsToLocals, Value.category]; done) | rfl
def Q_rnn (Z : State) (x1 : Addr) (h0 : Heap) (n0 : Nat) (v : Option Value) (h : Heap) (L : List Loc) : Prop := v = some (.ref x1) ∧ Fr n0 L ∧ h = h0
theorem rm_rnn (l : Launch) (Z : State) (a0 : Array Value) (hw : own_W a0 Z) (ws : List Jvm.Cond) (x1 : Addr) (h0 : Heap) (n0 : Nat) (Z0 : n0 ≤ h0.size)  :
    own_M l Z h0 ws own_y5 jdk_31_method_10_code 1 (some (.object "java/lang/Object")) (⟨0, 0, 0, 0⟩ : Room) #[(.ref x1)] (Q_rnn Z x1 h0 n0) := by
  refine MetFree.of_bodySF (plainFor_of_name pn_oci) hisR ?_
  intro p e s m args below meth c s₁ Bd hml0 hP hK
  obtain ⟨rfl, hZ, hh⟩ := hP
  have hx := Bd.exec
  have hby := Bd.bytes
  have hml : c.maxLocals = 1 := hml0
  have hown : s.vm.findClass "java/util/Objects" = some m.cls := findClass_of_methodNamed Bd.named
  have hnm := (name_of_methodNamed Bd.named Bd.method).1
  have X0 : Stand p l e (⟨0, 0, 0, 0⟩ : Room) s m #[(.ref x1)] below meth c s₁ [] 0 0 := Stand.of_body Bd
  have e0 : s₁.heap = h0 := by rw [← hh, Bd.state]; rfl
  have N0 := Fr.nil n0
  have pre0 : ∀ t, Steps p.tables e below (s₁.setTop (mkF m 0 #[own_r x1] [])) t → Steps p.tables e below (s₁.setTop (entryFrame m #[(.ref x1)] 1)) t := fun t k => castTop (ef_rnn m x1) k
  have pre2 : own_G p e below s₁ s₁ _ _ := fun t k => pre0 t (by
    refine XS.aloadN X0.here hx rfl (hb hby drnn_0) rfl rfl ?_
    refine XT.ifnonnullYes X0.here hx rfl (pc0 := 1) (pc' := 12) rfl (hb hby drnn_1) rfl (by decide) (by decide) ?_
    refine XS.aloadN X0.here hx rfl (hb hby drnn_12) rfl rfl ?_
    exact k)
  obtain ⟨fs, hr, hrun, hended, hW, hsame⟩ := X0.leave (v := some (.ref x1)) (fun h => by rw [Bd.returns] at h; cases h)
  refine ⟨_, _, pre2 _ ?_, hrun, hended, _, _, rfl, ?_, ⟨_, rfl⟩, hW, hsame.mono (by decide) (by decide)⟩
  · show Steps p.tables e below (s₁.setTop (mkF m 13 #[own_r x1] [(.ref x1)])) _
    jvm_step X0.here [X0.here.top, hx, (hb hby drnn_13), X0.method', Bd.returns, Value.isRef, FieldType.isReference]
    first | (intro acts; rw [hr _ acts rfl rfl rfl]) | rw [hr _ _ rfl rfl rfl]
    exact Steps.refl _
  · show Q_rnn Z x1 h0 n0 _ s₁.heap _
    rw [e0]
    exact ⟨rfl, N0, rfl⟩
theorem daic_0 : decode jdk_47_method_1_code 0 = .ok (.aload_n 0, 1) := by decide +kernel
theorem daic_1 : decode jdk_47_method_1_code 1 = .ok (.invokespecial 1, 3) := by decide +kernel
theorem daic_4 : decode jdk_47_method_1_code 4 = .ok (.return_, 1) := by decide +kernel
theorem pn_aic : plainName "java/util/ImmutableCollections$AbstractImmutableCollection" = true := by first | (simp [plainName, overriddenIn]; done) | decide +kernel
theorem ef_aic (m : MethodId) (a1 : Addr) : entryFrame m #[(.ref a1)] 1 = (mkF m 0 #[own_r a1] []) := by first | (simp [entryFrame, mkF, argsToLocals, Value.category]; done) | rfl
def Q_aic (Z : State) (a1 : Addr) (h0 : Heap) (n0 : Nat) (v : Option Value) (h : Heap) (L : List Loc) : Prop := v = none ∧ Fr n0 L ∧ h = h0
theorem rm_aic (l : Launch) (Z : State) (a0 : Array Value) (hw : own_W a0 Z) (ws : List Jvm.Cond) (a1 : Addr) (h0 : Heap) (n0 : Nat) (Z0 : n0 ≤ h0.size)  :
    own_M l Z h0 ws own_y42 jdk_47_method_1_code 1 none (⟨2, 0, 0, 24⟩ : Room) #[(.ref a1)] (Q_aic Z a1 h0 n0) := by
  refine MetFree.of_bodySF (plainFor_of_name pn_aic) hisR ?_
  intro p e s m args below meth c s₁ Bd hml0 hP hK
  obtain ⟨rfl, hZ, hh⟩ := hP
  have hx := Bd.exec
  have hby := Bd.bytes
  have hml : c.maxLocals = 1 := hml0
  have hown : s.vm.findClass "java/util/ImmutableCollections$AbstractImmutableCollection" = some m.cls := findClass_of_methodNamed Bd.named
  have hnm := (name_of_methodNamed Bd.named Bd.method).1
  have X0 : Stand p l e (⟨2, 0, 0, 24⟩ : Room) s m #[(.ref a1)] below meth c s₁ [] 0 0 := Stand.of_body Bd
  have e0 : s₁.heap = h0 := by rw [← hh, Bd.state]; rfl
  have N0 := Fr.nil n0
  have pre0 : ∀ t, Steps p.tables e below (s₁.setTop (mkF m 0 #[own_r a1] [])) t → Steps p.tables e below (s₁.setTop (entryFrame m #[(.ref a1)] 1)) t := fun t k => castTop (ef_aic m a1) k
  have pre2 : own_G p e below s₁ s₁ _ _ := fun t k => pre0 t (by
    refine XS.aloadN X0.here hx rfl (hb hby daic_0) rfl rfl ?_
    exact k)
  obtain ⟨_, _, ⟨T3, L3, kk3, nn3⟩, -, X3, ⟨Lc3, hQ3, l3, y3, z3⟩, st3⟩ := X0.specialBack hx (y := own_y23) rfl hown (mvT hZ (own_h hw 275 rfl)) (mvT hZ (own_h hw 14 rfl)) (mvT hZ (own_h hw 18 rfl)) (by decide) (backOf (W := 0) (rm_abc l Z a0 hw [] a1 h0 n0 Z0 ) hZ (own_h hw 18 rfl) (own_h hw 17 rfl) (by decide) (by decide)) (g := (mkF m 1 #[own_r a1] [(.ref a1)])) rfl (by rw [hml]; rfl) (Steps.refl _) (a := a1) (argsL := []) (rest := []) (lenOf pd___V rfl) rfl (by show 2 * 0 + _ ≤ _; exact Nat.le_of_eq rfl) (hb hby daic_1) (fun _ _ => ⟨rfl, e0, (by decide : 0 + 0 ≤ _), (by decide : 0 + 0 ≤ _)⟩)
  dsimp only [Pt.U, Pt.locs, Pt.cells, Pt.slots] at X3 l3 y3 z3 st3 hQ3
  subst l3 y3 z3
  obtain ⟨rfl, N3q, eq3⟩ := hQ3
  have N3 := Fr.app N0 N3q
  have pre4 : own_G p e below T3 s₁ _ _ := fun t k => pre2 t (by
    refine st3.trans ?_
    exact k)
  obtain ⟨fs, hr, hrun, hended, hW, hsame⟩ := X3.leave (v := none) (fun _ => rfl)
  refine ⟨_, _, pre4 _ ?_, hrun, hended, _, _, rfl, ?_, ⟨_, rfl⟩, hW, hsame.mono (by decide) (by decide)⟩
  · exact X3.returnOut hx Bd.returns (hb hby daic_4) hr
  · show Q_aic Z a1 h0 n0 _ T3.heap _
    rw [eq3]
    exact ⟨rfl, N3, rfl⟩
theorem dail_0 : decode jdk_46_method_1_code 0 = .ok (.aload_n 0, 1) := by decide +kernel
theorem dail_1 : decode jdk_46_method_1_code 1 = .ok (.invokespecial 1, 3) := by decide +kernel
theorem dail_4 : decode jdk_46_method_1_code 4 = .ok (.return_, 1) := by decide +kernel
theorem pn_ail : plainName "java/util/ImmutableCollections$AbstractImmutableList" = true := by first | (simp [plainName, overriddenIn]; done) | decide +kernel
theorem ef_ail (m : MethodId) (a1 : Addr) : entryFrame m #[(.ref a1)] 1 = (mkF m 0 #[own_r a1] []) := by first | (simp [entryFrame, mkF, argsToLocals, Value.category]; done) | rfl
def Q_ail (Z : State) (a1 : Addr) (h0 : Heap) (n0 : Nat) (v : Option Value) (h : Heap) (L : List Loc) : Prop := v = none ∧ Fr n0 L ∧ h = h0
theorem rm_ail (l : Launch) (Z : State) (a0 : Array Value) (hw : own_W a0 Z) (ws : List Jvm.Cond) (a1 : Addr) (h0 : Heap) (n0 : Nat) (Z0 : n0 ≤ h0.size)  :
    own_M l Z h0 ws own_y18 jdk_46_method_1_code 1 none (⟨3, 0, 0, 36⟩ : Room) #[(.ref a1)] (Q_ail Z a1 h0 n0) := by
  refine MetFree.of_bodySF (plainFor_of_name pn_ail) hisR ?_
  intro p e s m args below meth c s₁ Bd hml0 hP hK
  obtain ⟨rfl, hZ, hh⟩ := hP
  have hx := Bd.exec
  have hby := Bd.bytes
  have hml : c.maxLocals = 1 := hml0
  have hown : s.vm.findClass "java/util/ImmutableCollections$AbstractImmutableList" = some m.cls := findClass_of_methodNamed Bd.named
  have hnm := (name_of_methodNamed Bd.named Bd.method).1
  have X0 : Stand p l e (⟨3, 0, 0, 36⟩ : Room) s m #[(.ref a1)] below meth c s₁ [] 0 0 := Stand.of_body Bd
  have e0 : s₁.heap = h0 := by rw [← hh, Bd.state]; rfl
  have N0 := Fr.nil n0
  have pre0 : ∀ t, Steps p.tables e below (s₁.setTop (mkF m 0 #[own_r a1] [])) t → Steps p.tables e below (s₁.setTop (entryFrame m #[(.ref a1)] 1)) t := fun t k => castTop (ef_ail m a1) k
  have pre2 : own_G p e below s₁ s₁ _ _ := fun t k => pre0 t (by
    refine XS.aloadN X0.here hx rfl (hb hby dail_0) rfl rfl ?_
    exact k)
  obtain ⟨_, _, ⟨T3, L3, kk3, nn3⟩, -, X3, ⟨Lc3, hQ3, l3, y3, z3⟩, st3⟩ := X0.specialBack hx (y := own_y42) rfl hown (mvT hZ (own_h hw 269 rfl)) (mvT hZ (own_h hw 270 rfl)) (mvT hZ (own_h hw 274 rfl)) (by decide) (backOf (W := 0) (rm_aic l Z a0 hw [] a1 h0 n0 Z0 ) hZ (own_h hw 274 rfl) (own_h hw 273 rfl) (by decide) (by decide)) (g := (mkF m 1 #[own_r a1] [(.ref a1)])) rfl (by rw [hml]; rfl) (Steps.refl _) (a := a1) (argsL := []) (rest := []) (lenOf pd___V rfl) rfl (by show 2 * 0 + _ ≤ _; exact Nat.le_of_eq rfl) (hb hby dail_1) (fun _ _ => ⟨rfl, e0, (by decide : 0 + 0 ≤ _), (by decide : 0 + 0 ≤ _)⟩)
  dsimp only [Pt.U, Pt.locs, Pt.cells, Pt.slots] at X3 l3 y3 z3 st3 hQ3
  subst l3 y3 z3
  obtain ⟨rfl, N3q, eq3⟩ := hQ3
  have N3 := Fr.app N0 N3q
  have pre4 : own_G p e below T3 s₁ _ _ := fun t k => pre2 t (by
    refine st3.trans ?_
    exact k)
  obtain ⟨fs, hr, hrun, hended, hW, hsame⟩ := X3.leave (v := none) (fun _ => rfl)
  refine ⟨_, _, pre4 _ ?_, hrun, hended, _, _, rfl, ?_, ⟨_, rfl⟩, hW, hsame.mono (by decide) (by decide)⟩
  · exact X3.returnOut hx Bd.returns (hb hby dail_4) hr
  · show Q_ail Z a1 h0 n0 _ T3.heap _
    rw [eq3]
    exact ⟨rfl, N3, rfl⟩
theorem dl1i_0 : decode own_k26 0 = .ok (.aload_n 0, 1) := by decide +kernel
theorem dl1i_1 : decode own_k26 1 = .ok (.invokespecial 1, 3) := by decide +kernel
theorem dl1i_4 : decode own_k26 4 = .ok (.aload_n 0, 1) := by decide +kernel
theorem dl1i_5 : decode own_k26 5 = .ok (.aload_n 1, 1) := by decide +kernel
theorem dl1i_6 : decode own_k26 6 = .ok (.invokestatic 7, 3) := by decide +kernel
theorem dl1i_9 : decode own_k26 9 = .ok (.putfield 13, 3) := by decide +kernel
theorem dl1i_12 : decode own_k26 12 = .ok (.aload_n 0, 1) := by decide +kernel
theorem dl1i_13 : decode own_k26 13 = .ok (.getstatic 19, 3) := by decide +kernel
theorem dl1i_16 : decode own_k26 16 = .ok (.putfield 24, 3) := by decide +kernel
theorem dl1i_19 : decode own_k26 19 = .ok (.return_, 1) := by decide +kernel
theorem pd__Ljava_lang_Object__Ljava_lang_Object_ : parseMethodDescriptor "(Ljava/lang/Object;)Ljava/lang/Object;" = some ⟨[(.object "java/lang/Object")], some (.object "java/lang/Object")⟩ := by decide +kernel
theorem pn_l1i : plainName "java/util/ImmutableCollections$List12" = true := by first | (simp [plainName, overriddenIn]; done) | decide +kernel
theorem ef_l1i (m : MethodId) (a1 : Addr) (x1 : Addr) : entryFrame m #[(.ref a1), (.ref x1)] 2 = (mkF m 0 #[own_r a1, own_r x1] []) := by first | (simp [entryFrame, mkF, argsToLocals, Value.category]; done) | rfl
def Q_l1i (Z : State) (a1 x1 em : Addr) (h0 : Heap) (n0 : Nat) (v : Option Value) (h : Heap) (L : List Loc) : Prop := v = none ∧ Fr n0 L ∧ Keep h0 h [a1] ∧ Fld Z h a1 "java/util/ImmutableCollections$List12" "e0" "Ljava/lang/Object;" (.ref x1) ∧ Fld Z h a1 "java/util/ImmutableCollections$List12" "e1" "Ljava/lang/Object;" (.ref em)
theorem rm_l1i (l : Launch) (Z : State) (a0 : Array Value) (hw : own_W a0 Z) (ws : List Jvm.Cond) (a1 x1 em : Addr) (h0 : Heap) (n0 : Nat) (Z0 : n0 ≤ h0.size) (SEM : Sta Z h0 "java/util/ImmutableCollections" "EMPTY" "Ljava/lang/Object;" (.ref em)) (E1 : Exa Z h0 a1 "java/util/ImmutableCollections$List12") (F0 : Fld Z h0 a1 "java/util/ImmutableCollections$List12" "e0" "Ljava/lang/Object;" .null) (F1 : Fld Z h0 a1 "java/util/ImmutableCollections$List12" "e1" "Ljava/lang/Object;" .null) (g_a1 : n0 ≤ a1)  :
    own_M l Z h0 ws own_y43 jdk_44_method_1_code 2 none (⟨4, 0, 0, 48⟩ : Room) #[(.ref a1), (.ref x1)] (Q_l1i Z a1 x1 em h0 n0) := by
  refine MetFree.of_bodySF (plainFor_of_name pn_l1i) hisR ?_
  intro p e s m args below meth c s₁ Bd hml0 hP hK
  obtain ⟨rfl, hZ, hh⟩ := hP
  have hx := Bd.exec
  have hby := Bd.bytes
  have hml : c.maxLocals = 2 := hml0
  have hown : s.vm.findClass "java/util/ImmutableCollections$List12" = some m.cls := findClass_of_methodNamed Bd.named
  have hnm := (name_of_methodNamed Bd.named Bd.method).1
  have X0 : Stand p l e (⟨4, 0, 0, 48⟩ : Room) s m #[(.ref a1), (.ref x1)] below meth c s₁ [] 0 0 := Stand.of_body Bd
  have e0 : s₁.heap = h0 := by rw [← hh, Bd.state]; rfl
  have N0 := Fr.nil n0
  have pre0 : ∀ t, Steps p.tables e below (s₁.setTop (mkF m 0 #[own_r a1, own_r x1] [])) t → Steps p.tables e below (s₁.setTop (entryFrame m #[(.ref a1), (.ref x1)] 2)) t := fun t k => castTop (ef_l1i m a1 x1) k
  have K2 : Keep h0 h0 [a1] := Keep.refl h0 [a1]
  have pre3 : own_G p e below s₁ s₁ _ _ := fun t k => pre0 t (by
    refine XS.aloadN X0.here hx rfl (hb hby dl1i_0) rfl rfl ?_
    exact k)
  obtain ⟨_, _, ⟨T4, L4, kk4, nn4⟩, -, X4, ⟨Lc4, hQ4, l4, y4, z4⟩, st4⟩ := X0.specialBack hx (y := own_y18) rfl hown (mvT hZ (own_h hw 367 rfl)) (mvT hZ (own_h hw 264 rfl)) (mvT hZ (own_h hw 268 rfl)) (by decide) (backOf (W := 0) (rm_ail l Z a0 hw [] a1 h0 n0 Z0 ) hZ (own_h hw 268 rfl) (own_h hw 267 rfl) (by decide) (by decide)) (g := (mkF m 1 #[own_r a1, own_r x1] [(.ref a1)])) rfl (by rw [hml]; rfl) (Steps.refl _) (a := a1) (argsL := []) (rest := []) (lenOf pd___V rfl) rfl (by show 2 * 0 + _ ≤ _; exact Nat.le_of_eq rfl) (hb hby dl1i_1) (fun _ _ => ⟨rfl, e0, (by decide : 0 + 0 ≤ _), (by decide : 0 + 0 ≤ _)⟩)
  dsimp only [Pt.U, Pt.locs, Pt.cells, Pt.slots] at X4 l4 y4 z4 st4 hQ4
  subst l4 y4 z4
  obtain ⟨rfl, N4q, eq4⟩ := hQ4
  have N4 := Fr.app N0 N4q
  have pre5 : own_G p e below T4 s₁ _ _ := fun t k => pre3 t (by
    refine st4.trans ?_
    refine XS.aloadN X4.here hx rfl (hb hby dl1i_4) rfl rfl ?_
    refine XS.aloadN X4.here hx rfl (hb hby dl1i_5) rfl rfl ?_
    exact k)
  obtain ⟨_, _, ⟨T6, L6, kk6, nn6⟩, -, X6, ⟨Lc6, hQ6, l6, y6, z6⟩, st6⟩ := Jvm.LawKit.callS X4 hx (y := own_y5) hown (mvT hZ (own_h hw 371 rfl)) (mvT hZ (own_h hw 254 rfl)) (mvT hZ (own_h hw 255 rfl)) (mvT hZ (own_h hw 256 rfl)) (by decide) (backOf (W := 1) (rm_rnn l Z a0 hw [] x1 h0 n0 Z0 ) hZ (own_h hw 256 rfl) (own_h hw 255 rfl) (by decide) (by decide)) (g := (mkF m 6 #[own_r a1, own_r x1] [(.ref x1), (.ref a1)])) rfl (by rw [hml]; rfl) (argsL := [(.ref x1)]) (rest := [(.ref a1)]) (lenOf pd__Ljava_lang_Object__Ljava_lang_Object_ rfl) rfl (by show 2 * 0 + _ ≤ _; exact Nat.le_of_eq rfl) (hb hby dl1i_6) (fun _ _ => ⟨rfl, eq4, (by decide : 0 + 0 ≤ _), (by decide : 0 + 0 ≤ _)⟩)
  dsimp only [Pt.U, Pt.locs, Pt.cells, Pt.slots] at X6 l6 y6 z6 st6 hQ6
  subst l6 y6 z6
  obtain ⟨rfl, N6q, eq6⟩ := hQ6
  have N6 := Fr.app N4 N6q
  have pre7 : own_G p e below T6 s₁ _ _ := fun t k => pre5 t (by
    refine st6 _ ?_
    exact k)
  obtain ⟨T8, h8, X8, e8, W8, st8⟩ := putF X6 hx hZ hown (host := "") (Or.inl (own_h hw 372 rfl)) Via.refl eq6 F0 E1 (Or.inr ⟨(own_h hw 373 rfl), rfl, hnm⟩) (own_h hw 361 rfl) (ty := (.object "java/lang/Object")) (by decide) rfl rfl (g := (mkF m 9 #[own_r a1, own_r x1] [(.ref x1), (.ref a1)])) rfl rfl (hb hby dl1i_9)
  have F8 := F0.same W8
  have N8 := Fr.snoc X8 N6 g_a1
  have f9_0 := E1.wr W8
  have f9_2 := F1.other W8 (Or.inr (own_sn (own_l376 hw) (own_l373 hw) (by decide)))
  have f9_3 := SEM.wr W8
  have K10 := K2.wr W8 (Or.inl (List.mem_of_getElem? (i := 0) rfl))
  have Z8 : n0 ≤ h8.size := Nat.le_trans Z0 (Keep.of_wr W8).1
  have pre11 : own_G p e below T8 s₁ _ _ := fun t k => pre7 t (by
    refine st8 _ ?_
    refine XS.aloadN X8.here hx rfl (hb hby dl1i_12) rfl rfl ?_
    exact k)
  obtain ⟨T12, X12, e12, st12⟩ := getS2 X8 hx hZ hown (Or.inr (own_h hw 374 rfl)) Via.refl e8 f9_3 (g := (mkF m 13 #[own_r a1, own_r x1] [(.ref a1)])) rfl (hb hby dl1i_13)
  have pre13 : own_G p e below T12 s₁ _ _ := fun t k => pre11 t (by
    refine st12 _ ?_
    exact k)
  obtain ⟨T14, h14, X14, e14, W14, st14⟩ := putF X12 hx hZ hown (host := "") (Or.inl (own_h hw 375 rfl)) Via.refl e12 f9_2 f9_0 (Or.inr ⟨(own_h hw 376 rfl), rfl, hnm⟩) (own_h hw 361 rfl) (ty := (.object "java/lang/Object")) (by decide) rfl rfl (g := (mkF m 16 #[own_r a1, own_r x1] [(.ref em), (.ref a1)])) rfl rfl (hb hby dl1i_16)
  have F14 := f9_2.same W14
  have N14 := Fr.snoc X14 N8 g_a1
  have f15_0 := f9_0.wr W14
  have f15_2 := f9_3.wr W14
  have f15_3 := F8.other W14 (Or.inr (own_sn (own_l373 hw) (own_l376 hw) (by decide)))
  have K16 := K10.wr W14 (Or.inl (List.mem_of_getElem? (i := 0) rfl))
  have Z14 : n0 ≤ h14.size := Nat.le_trans Z8 (Keep.of_wr W14).1
  have pre17 : own_G p e below T14 s₁ _ _ := fun t k => pre13 t (by
    refine st14 _ ?_
    exact k)
  obtain ⟨fs, hr, hrun, hended, hW, hsame⟩ := X14.leave (v := none) (fun _ => rfl)
  refine ⟨_, _, pre17 _ ?_, hrun, hended, _, _, rfl, ?_, ⟨_, rfl⟩, hW, hsame.mono (by decide) (by decide)⟩
  · exact X14.returnOut hx Bd.returns (hb hby dl1i_19) hr
  · show Q_l1i Z a1 x1 em h0 n0 _ T14.heap _
    rw [e14]
    exact ⟨rfl, N14, K16, f15_3, F14⟩
theorem dl2i_0 : decode own_k22 0 = .ok (.aload_n 0, 1) := by decide +kernel
theorem dl2i_1 : decode own_k22 1 = .ok (.invokespecial 1, 3) := by decide +kernel
theorem dl2i_4 : decode own_k22 4 = .ok (.aload_n 0, 1) := by decide +kernel
theorem dl2i_5 : decode own_k22 5 = .ok (.aload_n 1, 1) := by decide +kernel
theorem dl2i_6 : decode own_k22 6 = .ok (.invokestatic 7, 3) := by decide +kernel
theorem dl2i_9 : decode own_k22 9 = .ok (.putfield 13, 3) := by decide +kernel
theorem dl2i_12 : decode own_k22 12 = .ok (.aload_n 0, 1) := by decide +kernel
theorem dl2i_13 : decode own_k22 13 = .ok (.aload_n 2, 1) := by decide +kernel
theorem dl2i_14 : decode own_k22 14 = .ok (.invokestatic 7, 3) := by decide +kernel
theorem dl2i_17 : decode own_k22 17 = .ok (.putfield 24, 3) := by decide +kernel
theorem dl2i_20 : decode own_k22 20 = .ok (.return_, 1) := by decide +kernel
theorem ef_l2i (m : MethodId) (a1 : Addr) (x1 : Addr) (y1 : Addr) : entryFrame m #[(.ref a1), (.ref x1), (.ref y1)] 3 = (mkF m 0 #[own_r a1, own_r x1, own_r y1] []) := by first | (simp [entryFrame, mkF, argsToLocals, Value.category]; done) | rfl
def Q_l2i (Z : State) (a1 x1 y1 : Addr) (h0 : Heap) (n0 : Nat) (v : Option Value) (h : Heap) (L : List Loc) : Prop := v = none ∧ Fr n0 L ∧ Keep h0 h [a1] ∧ Fld Z h a1 "java/util/ImmutableCollections$List12" "e0" "Ljava/lang/Object;" (.ref x1) ∧ Fld Z h a1 "java/util/ImmutableCollections$List12" "e1" "Ljava/lang/Object;" (.ref y1)
theorem rm_l2i (l : Launch) (Z : State) (a0 : Array Value) (hw : own_W a0 Z) (ws : List Jvm.Cond) (a1 x1 y1 : Addr) (h0 : Heap) (n0 : Nat) (Z0 : n0 ≤ h0.size) (E1 : Exa Z h0 a1 "java/util/ImmutableCollections$List12") (F0 : Fld Z h0 a1 "java/util/ImmutableCollections$List12" "e0" "Ljava/lang/Object;" .null) (F1 : Fld Z h0 a1 "java/util/ImmutableCollections$List12" "e1" "Ljava/lang/Object;" .null) (g_a1 : n0 ≤ a1)  :
    own_M l Z h0 ws own_y44 jdk_44_method_2_code 3 none (⟨4, 0, 0, 48⟩ : Room) #[(.ref a1), (.ref x1), (.ref y1)] (Q_l2i Z a1 x1 y1 h0 n0) := by
  refine MetFree.of_bodySF (plainFor_of_name pn_l1i) hisR ?_
  intro p e s m args below meth c s₁ Bd hml0 hP hK
  obtain ⟨rfl, hZ, hh⟩ := hP
  have hx := Bd.exec
  have hby := Bd.bytes
  have hml : c.maxLocals = 3 := hml0
  have hown : s.vm.findClass "java/util/ImmutableCollections$List12" = some m.cls := findClass_of_methodNamed Bd.named
  have hnm := (name_of_methodNamed Bd.named Bd.method).1
  have X0 : Stand p l e (⟨4, 0, 0, 48⟩ : Room) s m #[(.ref a1), (.ref x1), (.ref y1)] below meth c s₁ [] 0 0 := Stand.of_body Bd
  have e0 : s₁.heap = h0 := by rw [← hh, Bd.state]; rfl
  have N0 := Fr.nil n0
  have pre0 : ∀ t, Steps p.tables e below (s₁.setTop (mkF m 0 #[own_r a1, own_r x1, own_r y1] [])) t → Steps p.tables e below (s₁.setTop (entryFrame m #[(.ref a1), (.ref x1), (.ref y1)] 3)) t := fun t k => castTop (ef_l2i m a1 x1 y1) k
  have K2 : Keep h0 h0 [a1] := Keep.refl h0 [a1]
  have pre3 : own_G p e below s₁ s₁ _ _ := fun t k => pre0 t (by
    refine XS.aloadN X0.here hx rfl (hb hby dl2i_0) rfl rfl ?_
    exact k)
  obtain ⟨_, _, ⟨T4, L4, kk4, nn4⟩, -, X4, ⟨Lc4, hQ4, l4, y4, z4⟩, st4⟩ := X0.specialBack hx (y := own_y18) rfl hown (mvT hZ (own_h hw 367 rfl)) (mvT hZ (own_h hw 264 rfl)) (mvT hZ (own_h hw 268 rfl)) (by decide) (backOf (W := 0) (rm_ail l Z a0 hw [] a1 h0 n0 Z0 ) hZ (own_h hw 268 rfl) (own_h hw 267 rfl) (by decide) (by decide)) (g := (mkF m 1 #[own_r a1, own_r x1, own_r y1] [(.ref a1)])) rfl (by rw [hml]; rfl) (Steps.refl _) (a := a1) (argsL := []) (rest := []) (lenOf pd___V rfl) rfl (by show 2 * 0 + _ ≤ _; exact Nat.le_of_eq rfl) (hb hby dl2i_1) (fun _ _ => ⟨rfl, e0, (by decide : 0 + 0 ≤ _), (by decide : 0 + 0 ≤ _)⟩)
  dsimp only [Pt.U, Pt.locs, Pt.cells, Pt.slots] at X4 l4 y4 z4 st4 hQ4
  subst l4 y4 z4
  obtain ⟨rfl, N4q, eq4⟩ := hQ4
  have N4 := Fr.app N0 N4q
  have pre5 : own_G p e below T4 s₁ _ _ := fun t k => pre3 t (by
    refine st4.trans ?_
    refine XS.aloadN X4.here hx rfl (hb hby dl2i_4) rfl rfl ?_
    refine XS.aloadN X4.here hx rfl (hb hby dl2i_5) rfl rfl ?_
    exact k)
  obtain ⟨_, _, ⟨T6, L6, kk6, nn6⟩, -, X6, ⟨Lc6, hQ6, l6, y6, z6⟩, st6⟩ := Jvm.LawKit.callS X4 hx (y := own_y5) hown (mvT hZ (own_h hw 371 rfl)) (mvT hZ (own_h hw 254 rfl)) (mvT hZ (own_h hw 255 rfl)) (mvT hZ (own_h hw 256 rfl)) (by decide) (backOf (W := 1) (rm_rnn l Z a0 hw [] x1 h0 n0 Z0 ) hZ (own_h hw 256 rfl) (own_h hw 255 rfl) (by decide) (by decide)) (g := (mkF m 6 #[own_r a1, own_r x1, own_r y1] [(.ref x1), (.ref a1)])) rfl (by rw [hml]; rfl) (argsL := [(.ref x1)]) (rest := [(.ref a1)]) (lenOf pd__Ljava_lang_Object__Ljava_lang_Object_ rfl) rfl (by show 2 * 0 + _ ≤ _; exact Nat.le_of_eq rfl) (hb hby dl2i_6) (fun _ _ => ⟨rfl, eq4, (by decide : 0 + 0 ≤ _), (by decide : 0 + 0 ≤ _)⟩)
  dsimp only [Pt.U, Pt.locs, Pt.cells, Pt.slots] at X6 l6 y6 z6 st6 hQ6
  subst l6 y6 z6
  obtain ⟨rfl, N6q, eq6⟩ := hQ6
  have N6 := Fr.app N4 N6q
  have pre7 : own_G p e below T6 s₁ _ _ := fun t k => pre5 t (by
    refine st6 _ ?_
    exact k)
  obtain ⟨T8, h8, X8, e8, W8, st8⟩ := putF X6 hx hZ hown (host := "") (Or.inl (own_h hw 372 rfl)) Via.refl eq6 F0 E1 (Or.inr ⟨(own_h hw 373 rfl), rfl, hnm⟩) (own_h hw 361 rfl) (ty := (.object "java/lang/Object")) (by decide) rfl rfl (g := (mkF m 9 #[own_r a1, own_r x1, own_r y1] [(.ref x1), (.ref a1)])) rfl rfl (hb hby dl2i_9)
  have F8 := F0.same W8
  have N8 := Fr.snoc X8 N6 g_a1
  have f9_0 := E1.wr W8
  have f9_2 := F1.other W8 (Or.inr (own_sn (own_l376 hw) (own_l373 hw) (by decide)))
  have K10 := K2.wr W8 (Or.inl (List.mem_of_getElem? (i := 0) rfl))
  have Z8 : n0 ≤ h8.size := Nat.le_trans Z0 (Keep.of_wr W8).1
  have pre11 : own_G p e below T8 s₁ _ _ := fun t k => pre7 t (by
    refine st8 _ ?_
    refine XS.aloadN X8.here hx rfl (hb hby dl2i_12) rfl rfl ?_
    refine XS.aloadN X8.here hx rfl (hb hby dl2i_13) rfl rfl ?_
    exact k)
  obtain ⟨_, _, ⟨T12, L12, kk12, nn12⟩, -, X12, ⟨Lc12, hQ12, l12, y12, z12⟩, st12⟩ := Jvm.LawKit.callS X8 hx (y := own_y5) hown (mvT hZ (own_h hw 371 rfl)) (mvT hZ (own_h hw 254 rfl)) (mvT hZ (own_h hw 255 rfl)) (mvT hZ (own_h hw 256 rfl)) (by decide) (backOf (W := 1) (rm_rnn l Z a0 hw [] y1 h8 n0 Z8 ) hZ (own_h hw 256 rfl) (own_h hw 255 rfl) (by decide) (by decide)) (g := (mkF m 14 #[own_r a1, own_r x1, own_r y1] [(.ref y1), (.ref a1)])) rfl (by rw [hml]; rfl) (argsL := [(.ref y1)]) (rest := [(.ref a1)]) (lenOf pd__Ljava_lang_Object__Ljava_lang_Object_ rfl) rfl (by show 2 * 0 + _ ≤ _; exact Nat.le_of_eq rfl) (hb hby dl2i_14) (fun _ _ => ⟨rfl, e8, (by decide : 0 + 0 ≤ _), (by decide : 0 + 0 ≤ _)⟩)
  dsimp only [Pt.U, Pt.locs, Pt.cells, Pt.slots] at X12 l12 y12 z12 st12 hQ12
  subst l12 y12 z12
  obtain ⟨rfl, N12q, eq12⟩ := hQ12
  have N12 := Fr.app N8 N12q
  have pre13 : own_G p e below T12 s₁ _ _ := fun t k => pre11 t (by
    refine st12 _ ?_
    exact k)
  obtain ⟨T14, h14, X14, e14, W14, st14⟩ := putF X12 hx hZ hown (host := "") (Or.inl (own_h hw 375 rfl)) Via.refl eq12 f9_2 f9_0 (Or.inr ⟨(own_h hw 376 rfl), rfl, hnm⟩) (own_h hw 361 rfl) (ty := (.object "java/lang/Object")) (by decide) rfl rfl (g := (mkF m 17 #[own_r a1, own_r x1, own_r y1] [(.ref y1), (.ref a1)])) rfl rfl (hb hby dl2i_17)
  have F14 := f9_2.same W14
  have N14 := Fr.snoc X14 N12 g_a1
  have f15_0 := f9_0.wr W14
  have f15_2 := F8.other W14 (Or.inr (own_sn (own_l373 hw) (own_l376 hw) (by decide)))
  have K16 := K10.wr W14 (Or.inl (List.mem_of_getElem? (i := 0) rfl))
  have Z14 : n0 ≤ h14.size := Nat.le_trans Z8 (Keep.of_wr W14).1
  have pre17 : own_G p e below T14 s₁ _ _ := fun t k => pre13 t (by
    refine st14 _ ?_
    exact k)
  obtain ⟨fs, hr, hrun, hended, hW, hsame⟩ := X14.leave (v := none) (fun _ => rfl)
  refine ⟨_, _, pre17 _ ?_, hrun, hended, _, _, rfl, ?_, ⟨_, rfl⟩, hW, hsame.mono (by decide) (by decide)⟩
  · exact X14.returnOut hx Bd.returns (hb hby dl2i_20) hr
  · show Q_l2i Z a1 x1 y1 h0 n0 _ T14.heap _
    rw [e14]
    exact ⟨rfl, N14, K16, f15_2, F14⟩
theorem dlni_0 : decode own_k27 0 = .ok (.aload_n 0, 1) := by decide +kernel
theorem dlni_1 : decode own_k27 1 = .ok (.invokespecial 1, 3) := by decide +kernel
theorem dlni_4 : decode own_k27 4 = .ok (.aload_n 0, 1) := by decide +kernel
theorem dlni_5 : decode own_k27 5 = .ok (.aload_n 1, 1) := by decide +kernel
theorem dlni_6 : decode own_k27 6 = .ok (.putfield 7, 3) := by decide +kernel
theorem dlni_9 : decode own_k27 9 = .ok (.aload_n 0, 1) := by decide +kernel
theorem dlni_10 : decode own_k27 10 = .ok (.iload_n 2, 1) := by decide +kernel
theorem dlni_11 : decode own_k27 11 = .ok (.putfield 13, 3) := by decide +kernel
theorem dlni_14 : decode own_k27 14 = .ok (.return_, 1) := by decide +kernel
theorem pn_lni : plainName "java/util/ImmutableCollections$ListN" = true := by first | (simp [plainName, overriddenIn]; done) | decide +kernel
theorem ef_lni (m : MethodId) (a1 : Addr) (b1 : Addr) : entryFrame m #[(.ref a1), (.ref b1), (.int (0 : Int32))] 3 = (mkF m 0 #[own_r a1, own_r b1, .val (.int (0 : Int32))] []) := by first | (simp [entryFrame, mkF, argsToLocals, Value.category]; done) | rfl
def Q_lni (Z : State) (a1 b1 : Addr) (h0 : Heap) (n0 : Nat) (v : Option Value) (h : Heap) (L : List Loc) : Prop := v = none ∧ Fr n0 L ∧ Keep h0 h [a1] ∧ Fld Z h a1 "java/util/ImmutableCollections$ListN" "elements" "[Ljava/lang/Object;" (.ref b1)
theorem rm_lni (l : Launch) (Z : State) (a0 : Array Value) (hw : own_W a0 Z) (ws : List Jvm.Cond) (a1 b1 : Addr) (h0 : Heap) (n0 : Nat) (Z0 : n0 ≤ h0.size) (E1 : Exa Z h0 a1 "java/util/ImmutableCollections$ListN") (F0 : Fld Z h0 a1 "java/util/ImmutableCollections$ListN" "elements" "[Ljava/lang/Object;" .null) (F1 : Fld Z h0 a1 "java/util/ImmutableCollections$ListN" "allowNulls" "Z" (.int (0 : Int32))) (g_a1 : n0 ≤ a1)  :
    own_M l Z h0 ws own_y45 jdk_45_method_1_code 3 none (⟨4, 0, 0, 48⟩ : Room) #[(.ref a1), (.ref b1), (.int (0 : Int32))] (Q_lni Z a1 b1 h0 n0) := by
  refine MetFree.of_bodySF (plainFor_of_name pn_lni) hisR ?_
  intro p e s m args below meth c s₁ Bd hml0 hP hK
  obtain ⟨rfl, hZ, hh⟩ := hP
  have hx := Bd.exec
  have hby := Bd.bytes
  have hml : c.maxLocals = 3 := hml0
  have hown : s.vm.findClass "java/util/ImmutableCollections$ListN" = some m.cls := findClass_of_methodNamed Bd.named
  have hnm := (name_of_methodNamed Bd.named Bd.method).1
  have X0 : Stand p l e (⟨4, 0, 0, 48⟩ : Room) s m #[(.ref a1), (.ref b1), (.int (0 : Int32))] below meth c s₁ [] 0 0 := Stand.of_body Bd
  have e0 : s₁.heap = h0 := by rw [← hh, Bd.state]; rfl
  have N0 := Fr.nil n0
  have pre0 : ∀ t, Steps p.tables e below (s₁.setTop (mkF m 0 #[own_r a1, own_r b1, .val (.int (0 : Int32))] [])) t → Steps p.tables e below (s₁.setTop (entryFrame m #[(.ref a1), (.ref b1), (.int (0 : Int32))] 3)) t := fun t k => castTop (ef_lni m a1 b1) k
  have K2 : Keep h0 h0 [a1] := Keep.refl h0 [a1]
  have pre3 : own_G p e below s₁ s₁ _ _ := fun t k => pre0 t (by
    refine XS.aloadN X0.here hx rfl (hb hby dlni_0) rfl rfl ?_
    exact k)
  obtain ⟨_, _, ⟨T4, L4, kk4, nn4⟩, -, X4, ⟨Lc4, hQ4, l4, y4, z4⟩, st4⟩ := X0.specialBack hx (y := own_y18) rfl hown (mvT hZ (own_h hw 263 rfl)) (mvT hZ (own_h hw 264 rfl)) (mvT hZ (own_h hw 268 rfl)) (by decide) (backOf (W := 0) (rm_ail l Z a0 hw [] a1 h0 n0 Z0 ) hZ (own_h hw 268 rfl) (own_h hw 267 rfl) (by decide) (by decide)) (g := (mkF m 1 #[own_r a1, own_r b1, .val (.int (0 : Int32))] [(.ref a1)])) rfl (by rw [hml]; rfl) (Steps.refl _) (a := a1) (argsL := []) (rest := []) (lenOf pd___V rfl) rfl (by show 2 * 0 + _ ≤ _; exact Nat.le_of_eq rfl) (hb hby dlni_1) (fun _ _ => ⟨rfl, e0, (by decide : 0 + 0 ≤ _), (by decide : 0 + 0 ≤ _)⟩)
  dsimp only [Pt.U, Pt.locs, Pt.cells, Pt.slots] at X4 l4 y4 z4 st4 hQ4
  subst l4 y4 z4
  obtain ⟨rfl, N4q, eq4⟩ := hQ4
  have N4 := Fr.app N0 N4q
  have pre5 : own_G p e below T4 s₁ _ _ := fun t k => pre3 t (by
    refine st4.trans ?_
    refine XS.aloadN X4.here hx rfl (hb hby dlni_4) rfl rfl ?_
    refine XS.aloadN X4.here hx rfl (hb hby dlni_5) rfl rfl ?_
    exact k)
  obtain ⟨T6, h6, X6, e6, W6, st6⟩ := putF X4 hx hZ hown (host := "") (Or.inl (own_h hw 277 rfl)) Via.refl eq4 F0 E1 (Or.inr ⟨(own_h hw 278 rfl), rfl, hnm⟩) (own_h hw 257 rfl) (ty := (.array (.object "java/lang/Object"))) (by decide) rfl rfl (g := (mkF m 6 #[own_r a1, own_r b1, .val (.int (0 : Int32))] [(.ref b1), (.ref a1)])) rfl rfl (hb hby dlni_6)
  have F6 := F0.same W6
  have N6 := Fr.snoc X6 N4 g_a1
  have f7_0 := E1.wr W6
  have f7_2 := F1.other W6 (Or.inr (own_sn (own_l280 hw) (own_l278 hw) (by decide)))
  have K8 := K2.wr W6 (Or.inl (List.mem_of_getElem? (i := 0) rfl))
  have Z6 : n0 ≤ h6.size := Nat.le_trans Z0 (Keep.of_wr W6).1
  have pre9 : own_G p e below T6 s₁ _ _ := fun t k => pre5 t (by
    refine st6 _ ?_
    refine XS.aloadN X6.here hx rfl (hb hby dlni_9) rfl rfl ?_
    refine XS.iloadN X6.here hx rfl (hb hby dlni_10) rfl ?_
    exact k)
  obtain ⟨T10, h10, X10, e10, W10, st10⟩ := putF X6 hx hZ hown (host := "") (Or.inl (own_h hw 279 rfl)) Via.refl e6 f7_2 f7_0 (Or.inr ⟨(own_h hw 280 rfl), rfl, hnm⟩) (own_h hw 257 rfl) (ty := .boolean) (by decide) rfl rfl (g := (mkF m 11 #[own_r a1, own_r b1, .val (.int (0 : Int32))] [(.int (0 : Int32)), (.ref a1)])) rfl rfl (hb hby dlni_11)
  have F10 := f7_2.same W10
  have N10 := Fr.snoc X10 N6 g_a1
  have f11_0 := f7_0.wr W10
  have f11_2 := F6.other W10 (Or.inr (own_sn (own_l278 hw) (own_l280 hw) (by decide)))
  have K12 := K8.wr W10 (Or.inl (List.mem_of_getElem? (i := 0) rfl))
  have Z10 : n0 ≤ h10.size := Nat.le_trans Z6 (Keep.of_wr W10).1
  have pre13 : own_G p e below T10 s₁ _ _ := fun t k => pre9 t (by
    refine st10 _ ?_
    exact k)
  obtain ⟨fs, hr, hrun, hended, hW, hsame⟩ := X10.leave (v := none) (fun _ => rfl)
  refine ⟨_, _, pre13 _ ?_, hrun, hended, _, _, rfl, ?_, ⟨_, rfl⟩, hW, hsame.mono (by decide) (by decide)⟩
  · exact X10.returnOut hx Bd.returns (hb hby dlni_14) hr
  · show Q_lni Z a1 b1 h0 n0 _ T10.heap _
    rw [e10]
    exact ⟨rfl, N10, K12, f11_2⟩
theorem dlns_0 : decode jdk_45_method_3_code 0 = .ok (.aload_n 0, 1) := by decide +kernel
theorem dlns_1 : decode jdk_45_method_3_code 1 = .ok (.getfield 7, 3) := by decide +kernel
theorem dlns_4 : decode jdk_45_method_3_code 4 = .ok (.arraylength, 1) := by decide +kernel
theorem dlns_5 : decode jdk_45_method_3_code 5 = .ok (.ireturn, 1) := by decide +kernel
theorem ef_lns (m : MethodId) (a1 : Addr) : entryFrame m #[(.ref a1)] 1 = (mkF m 0 #[own_r a1] []) := by first | (simp [entryFrame, mkF, argsToLocals, Value.category]; done) | rfl
def Q_lns (Z : State) (a1 b1 : Addr) (z : Int32) (k : ClassId) (xs : List Value) (h0 : Heap) (n0 : Nat) (v : Option Value) (h : Heap) (L : List Loc) : Prop := v = some (.int z) ∧ Fr n0 L ∧ h = h0
theorem rm_lns (l : Launch) (Z : State) (a0 : Array Value) (hw : own_W a0 Z) (ws : List Jvm.Cond) (a1 b1 : Addr) (z : Int32) (k : ClassId) (xs : List Value) (h0 : Heap) (n0 : Nat) (Z0 : n0 ≤ h0.size) (F0 : Fld Z h0 a1 "java/util/ImmutableCollections$ListN" "elements" "[Ljava/lang/Object;" (.ref b1)) (V1 : Arv Z h0 b1 k (.object "java/lang/Object") z xs .null) :
    own_M l Z h0 ws own_y28 jdk_45_method_3_code 1 (some .int) (⟨0, 0, 0, 0⟩ : Room) #[(.ref a1)] (Q_lns Z a1 b1 z k xs h0 n0) := by
  refine MetFree.of_bodySF (plainFor_of_name pn_lni) hisR ?_
  intro p e s m args below meth c s₁ Bd hml0 hP hK
  obtain ⟨rfl, hZ, hh⟩ := hP
  have hx := Bd.exec
  have hby := Bd.bytes
  have hml : c.maxLocals = 1 := hml0
  have hown : s.vm.findClass "java/util/ImmutableCollections$ListN" = some m.cls := findClass_of_methodNamed Bd.named
  have hnm := (name_of_methodNamed Bd.named Bd.method).1
  have X0 : Stand p l e (⟨0, 0, 0, 0⟩ : Room) s m #[(.ref a1)] below meth c s₁ [] 0 0 := Stand.of_body Bd
  have e0 : s₁.heap = h0 := by rw [← hh, Bd.state]; rfl
  have N0 := Fr.nil n0
  have pre0 : ∀ t, Steps p.tables e below (s₁.setTop (mkF m 0 #[own_r a1] [])) t → Steps p.tables e below (s₁.setTop (entryFrame m #[(.ref a1)] 1)) t := fun t k => castTop (ef_lns m a1) k
  have pre2 : own_G p e below s₁ s₁ _ _ := fun t k => pre0 t (by
    refine XS.aloadN X0.here hx rfl (hb hby dlns_0) rfl rfl ?_
    exact k)
  obtain ⟨T3, X3, e3, st3⟩ := getF X0 hx hZ hown (host := "") (Or.inl (own_h hw 277 rfl)) Via.refl e0 F0 (g := (mkF m 1 #[own_r a1] [(.ref a1)])) rfl rfl (hb hby dlns_1)
  obtain ⟨cl4, Ar4, kc4, S4, M4, H4, G4⟩ := id V1
  have pre5 : own_G p e below T3 s₁ _ _ := fun t k => pre2 t (by
    refine st3 _ ?_
    refine X3.arraylength hx (cell := cl4) (by rw [e3]; exact Ar4.1) (State.isArrayOf_alike hZ.alike Ar4.2.1) (g := (mkF m 4 #[own_r a1] [(.ref b1)])) rfl (rest := []) rfl (hb hby dlns_4) _ ?_
    rw [len_of S4 M4]
    exact k)
  obtain ⟨fs, hr, hrun, hended, hW, hsame⟩ := X3.leave (v := some (.int z)) (fun h => by rw [Bd.returns] at h; cases h)
  refine ⟨_, _, pre5 _ ?_, hrun, hended, _, _, rfl, ?_, ⟨_, rfl⟩, hW, hsame.mono (by decide) (by decide)⟩
  · exact retI X3 hx Bd.returns (hb hby dlns_5) hr
  · show Q_lns Z a1 b1 z k xs h0 n0 _ T3.heap _
    rw [e3]
    exact ⟨rfl, N0, rfl⟩
theorem dlng_0 : decode jdk_45_method_4_code 0 = .ok (.aload_n 0, 1) := by decide +kernel
theorem dlng_1 : decode jdk_45_method_4_code 1 = .ok (.getfield 7, 3) := by decide +kernel
theorem dlng_4 : decode jdk_45_method_4_code 4 = .ok (.iload_n 1, 1) := by decide +kernel
theorem dlng_5 : decode jdk_45_method_4_code 5 = .ok (.aaload, 1) := by decide +kernel
theorem dlng_6 : decode jdk_45_method_4_code 6 = .ok (.areturn, 1) := by decide +kernel
theorem ef_lng (m : MethodId) (a1 : Addr) (i : Int32) : entryFrame m #[(.ref a1), (.int i)] 2 = (mkF m 0 #[own_r a1, own_i i] []) := by first | (simp [entryFrame, mkF, argsToLocals, Value.category]; done) | rfl
def Q_lng (Z : State) (a1 b1 x1 : Addr) (i z : Int32) (k : ClassId) (xs : List Value) (h0 : Heap) (n0 : Nat) (v : Option Value) (h : Heap) (L : List Loc) : Prop := v = some (.ref x1) ∧ Fr n0 L ∧ h = h0
theorem rm_lng (l : Launch) (Z : State) (a0 : Array Value) (hw : own_W a0 Z) (ws : List Jvm.Cond) (a1 b1 x1 : Addr) (i z : Int32) (k : ClassId) (xs : List Value) (h0 : Heap) (n0 : Nat) (Z0 : n0 ≤ h0.size) (F0 : Fld Z h0 a1 "java/util/ImmutableCollections$ListN" "elements" "[Ljava/lang/Object;" (.ref b1)) (V1 : Arv Z h0 b1 k (.object "java/lang/Object") z xs .null) (hin : ¬ i < 0 ∧ i < z) (hat : xs.getD i.toNatClampNeg .null = .ref x1) :
    own_M l Z h0 ws own_y6 jdk_45_method_4_code 2 (some (.object "java/lang/Object")) (⟨0, 0, 0, 0⟩ : Room) #[(.ref a1), (.int i)] (Q_lng Z a1 b1 x1 i z k xs h0 n0) := by
  refine MetFree.of_bodySF (plainFor_of_name pn_lni) hisR ?_
  intro p e s m args below meth c s₁ Bd hml0 hP hK
  obtain ⟨rfl, hZ, hh⟩ := hP
  have hx := Bd.exec
  have hby := Bd.bytes
  have hml : c.maxLocals = 2 := hml0
  have hown : s.vm.findClass "java/util/ImmutableCollections$ListN" = some m.cls := findClass_of_methodNamed Bd.named
  have hnm := (name_of_methodNamed Bd.named Bd.method).1
  have X0 : Stand p l e (⟨0, 0, 0, 0⟩ : Room) s m #[(.ref a1), (.int i)] below meth c s₁ [] 0 0 := Stand.of_body Bd
  have e0 : s₁.heap = h0 := by rw [← hh, Bd.state]; rfl
  have N0 := Fr.nil n0
  have pre0 : ∀ t, Steps p.tables e below (s₁.setTop (mkF m 0 #[own_r a1, own_i i] [])) t → Steps p.tables e below (s₁.setTop (entryFrame m #[(.ref a1), (.int i)] 2)) t := fun t k => castTop (ef_lng m a1 i) k
  have pre2 : own_G p e below s₁ s₁ _ _ := fun t k => pre0 t (by
    refine XS.aloadN X0.here hx rfl (hb hby dlng_0) rfl rfl ?_
    exact k)
  obtain ⟨T3, X3, e3, st3⟩ := getF X0 hx hZ hown (host := "") (Or.inl (own_h hw 277 rfl)) Via.refl e0 F0 (g := (mkF m 1 #[own_r a1, own_i i] [(.ref a1)])) rfl rfl (hb hby dlng_1)
  obtain ⟨cl4, Ar4, kc4, S4, M4, H4, G4⟩ := id V1
  have hin4 := inb_of S4 (j := i) hin
  have hat4 : cl4.slots[(i).toNatClampNeg]? = some (.ref x1) := H4.at hin4 hat
  have pre5 : own_G p e below T3 s₁ _ _ := fun t k => pre2 t (by
    refine st3 _ ?_
    refine XS.iloadN X3.here hx rfl (hb hby dlng_4) rfl ?_
    refine X3.aaload hx (j := i) (v := (.ref x1)) (by rw [e3]; exact Ar4.1) (State.isArrayOf_alike hZ.alike Ar4.2.1) rfl Ar4.2.2 hin4 hat4 (g := (mkF m 5 #[own_r a1, own_i i] [(.int i), (.ref b1)])) rfl rfl (hb hby dlng_5) _ ?_
    exact k)
  obtain ⟨fs, hr, hrun, hended, hW, hsame⟩ := X3.leave (v := some (.ref x1)) (fun h => by rw [Bd.returns] at h; cases h)
  refine ⟨_, _, pre5 _ ?_, hrun, hended, _, _, rfl, ?_, ⟨_, rfl⟩, hW, hsame.mono (by decide) (by decide)⟩
  · show Steps p.tables e below (T3.setTop (mkF m 6 #[own_r a1, own_i i] [(.ref x1)])) _
    jvm_step X3.here [X3.here.top, hx, (hb hby dlng_6), X3.method', Bd.returns, Value.isRef, FieldType.isReference]
    first | (intro acts; rw [hr _ acts rfl rfl rfl]) | rw [hr _ _ rfl rfl rfl]
    exact Steps.refl _
  · show Q_lng Z a1 b1 x1 i z k xs h0 n0 _ T3.heap _
    rw [e3]
    exact ⟨rfl, N0, rfl⟩
theorem dl1s_0 : decode own_k21 0 = .ok (.aload_n 0, 1) := by decide +kernel
theorem dl1s_1 : decode own_k21 1 = .ok (.getfield 24, 3) := by decide +kernel
theorem dl1s_4 : decode own_k21 4 = .ok (.getstatic 19, 3) := by decide +kernel
theorem dl1s_7 : decode own_k21 7 = .ok (.if_acmp .eq 7, 3) := by decide +kernel
theorem dl1s_14 : decode own_k21 14 = .ok (.iconst 1, 1) := by decide +kernel
theorem dl1s_15 : decode own_k21 15 = .ok (.ireturn, 1) := by decide +kernel
theorem ef_l1s (m : MethodId) (a1 : Addr) : entryFrame m #[(.ref a1)] 1 = (mkF m 0 #[own_r a1] []) := by first | (simp [entryFrame, mkF, argsToLocals, Value.category]; done) | rfl
def Q_l1s (Z : State) (a1 em : Addr) (h0 : Heap) (n0 : Nat) (v : Option Value) (h : Heap) (L : List Loc) : Prop := v = some (.int 1) ∧ Fr n0 L ∧ h = h0
theorem rm_l1s (l : Launch) (Z : State) (a0 : Array Value) (hw : own_W a0 Z) (ws : List Jvm.Cond) (a1 em : Addr) (h0 : Heap) (n0 : Nat) (Z0 : n0 ≤ h0.size) (SEM : Sta Z h0 "java/util/ImmutableCollections" "EMPTY" "Ljava/lang/Object;" (.ref em)) (F1 : Fld Z h0 a1 "java/util/ImmutableCollections$List12" "e1" "Ljava/lang/Object;" (.ref em)) :
    own_M l Z h0 ws own_y19 jdk_44_method_3_code 1 (some .int) (⟨0, 0, 0, 0⟩ : Room) #[(.ref a1)] (Q_l1s Z a1 em h0 n0) := by
  refine MetFree.of_bodySF (plainFor_of_name pn_l1i) hisR ?_
  intro p e s m args below meth c s₁ Bd hml0 hP hK
  obtain ⟨rfl, hZ, hh⟩ := hP
  have hx := Bd.exec
  have hby := Bd.bytes
  have hml : c.maxLocals = 1 := hml0
  have hown : s.vm.findClass "java/util/ImmutableCollections$List12" = some m.cls := findClass_of_methodNamed Bd.named
  have hnm := (name_of_methodNamed Bd.named Bd.method).1
  have X0 : Stand p l e (⟨0, 0, 0, 0⟩ : Room) s m #[(.ref a1)] below meth c s₁ [] 0 0 := Stand.of_body Bd
  have e0 : s₁.heap = h0 := by rw [← hh, Bd.state]; rfl
  have N0 := Fr.nil n0
  have pre0 : ∀ t, Steps p.tables e below (s₁.setTop (mkF m 0 #[own_r a1] [])) t → Steps p.tables e below (s₁.setTop (entryFrame m #[(.ref a1)] 1)) t := fun t k => castTop (ef_l1s m a1) k
  have pre2 : own_G p e below s₁ s₁ _ _ := fun t k => pre0 t (by
    refine XS.aloadN X0.here hx rfl (hb hby dl1s_0) rfl rfl ?_
    exact k)
  obtain ⟨T3, X3, e3, st3⟩ := getF X0 hx hZ hown (host := "") (Or.inl (own_h hw 375 rfl)) Via.refl e0 F1 (g := (mkF m 1 #[own_r a1] [(.ref a1)])) rfl rfl (hb hby dl1s_1)
  have pre4 : own_G p e below T3 s₁ _ _ := fun t k => pre2 t (by
    refine st3 _ ?_
    exact k)
  obtain ⟨T5, X5, e5, st5⟩ := getS2 X3 hx hZ hown (Or.inr (own_h hw 374 rfl)) Via.refl e3 SEM (g := (mkF m 4 #[own_r a1] [(.ref em)])) rfl (hb hby dl1s_4)
  have pre6 : own_G p e below T5 s₁ _ _ := fun t k => pre4 t (by
    refine st5 _ ?_
    refine XT.acmpYes X5.here hx rfl (pc0 := 7) (pc' := 14) rfl (hb hby dl1s_7) rfl rfl rfl (XT.aa_eq_t rfl) (by decide) (by decide) ?_
    refine XS.iconst X5.here hx rfl (hb hby dl1s_14) ?_
    exact k)
  obtain ⟨fs, hr, hrun, hended, hW, hsame⟩ := X5.leave (v := some (.int (1 : Int32))) (fun h => by rw [Bd.returns] at h; cases h)
  refine ⟨_, _, pre6 _ ?_, hrun, hended, _, _, rfl, ?_, ⟨_, rfl⟩, hW, hsame.mono (by decide) (by decide)⟩
  · exact retI X5 hx Bd.returns (hb hby dl1s_15) hr
  · show Q_l1s Z a1 em h0 n0 _ T5.heap _
    rw [e5]
    exact ⟨rfl, N0, rfl⟩
theorem dl2s_0 : decode own_k21 0 = .ok (.aload_n 0, 1) := by decide +kernel
theorem dl2s_1 : decode own_k21 1 = .ok (.getfield 24, 3) := by decide +kernel
theorem dl2s_4 : decode own_k21 4 = .ok (.getstatic 19, 3) := by decide +kernel
theorem dl2s_7 : decode own_k21 7 = .ok (.if_acmp .eq 7, 3) := by decide +kernel
theorem dl2s_10 : decode own_k21 10 = .ok (.iconst 2, 1) := by decide +kernel
theorem dl2s_11 : decode own_k21 11 = .ok (.goto 4, 3) := by decide +kernel
theorem dl2s_15 : decode own_k21 15 = .ok (.ireturn, 1) := by decide +kernel
theorem ef_l2s (m : MethodId) (a1 : Addr) : entryFrame m #[(.ref a1)] 1 = (mkF m 0 #[own_r a1] []) := by first | (simp [entryFrame, mkF, argsToLocals, Value.category]; done) | rfl
def Q_l2s (Z : State) (a1 y1 em : Addr) (h0 : Heap) (n0 : Nat) (v : Option Value) (h : Heap) (L : List Loc) : Prop := v = some (.int 2) ∧ Fr n0 L ∧ h = h0
theorem rm_l2s (l : Launch) (Z : State) (a0 : Array Value) (hw : own_W a0 Z) (ws : List Jvm.Cond) (a1 y1 em : Addr) (h0 : Heap) (n0 : Nat) (Z0 : n0 ≤ h0.size) (SEM : Sta Z h0 "java/util/ImmutableCollections" "EMPTY" "Ljava/lang/Object;" (.ref em)) (F1 : Fld Z h0 a1 "java/util/ImmutableCollections$List12" "e1" "Ljava/lang/Object;" (.ref y1)) (hne : ¬ y1 = em) :
    own_M l Z h0 ws own_y19 jdk_44_method_3_code 1 (some .int) (⟨0, 0, 0, 0⟩ : Room) #[(.ref a1)] (Q_l2s Z a1 y1 em h0 n0) := by
  refine MetFree.of_bodySF (plainFor_of_name pn_l1i) hisR ?_
  intro p e s m args below meth c s₁ Bd hml0 hP hK
  obtain ⟨rfl, hZ, hh⟩ := hP
  have hx := Bd.exec
  have hby := Bd.bytes
  have hml : c.maxLocals = 1 := hml0
  have hown : s.vm.findClass "java/util/ImmutableCollections$List12" = some m.cls := findClass_of_methodNamed Bd.named
  have hnm := (name_of_methodNamed Bd.named Bd.method).1
  have X0 : Stand p l e (⟨0, 0, 0, 0⟩ : Room) s m #[(.ref a1)] below meth c s₁ [] 0 0 := Stand.of_body Bd
  have e0 : s₁.heap = h0 := by rw [← hh, Bd.state]; rfl
  have N0 := Fr.nil n0
  have pre0 : ∀ t, Steps p.tables e below (s₁.setTop (mkF m 0 #[own_r a1] [])) t → Steps p.tables e below (s₁.setTop (entryFrame m #[(.ref a1)] 1)) t := fun t k => castTop (ef_l2s m a1) k
  have pre2 : own_G p e below s₁ s₁ _ _ := fun t k => pre0 t (by
    refine XS.aloadN X0.here hx rfl (hb hby dl2s_0) rfl rfl ?_
    exact k)
  obtain ⟨T3, X3, e3, st3⟩ := getF X0 hx hZ hown (host := "") (Or.inl (own_h hw 375 rfl)) Via.refl e0 F1 (g := (mkF m 1 #[own_r a1] [(.ref a1)])) rfl rfl (hb hby dl2s_1)
  have pre4 : own_G p e below T3 s₁ _ _ := fun t k => pre2 t (by
    refine st3 _ ?_
    exact k)
  obtain ⟨T5, X5, e5, st5⟩ := getS2 X3 hx hZ hown (Or.inr (own_h hw 374 rfl)) Via.refl e3 SEM (g := (mkF m 4 #[own_r a1] [(.ref y1)])) rfl (hb hby dl2s_4)
  have pre6 : own_G p e below T5 s₁ _ _ := fun t k => pre4 t (by
    refine st5 _ ?_
    refine XT.acmpNo X5.here hx rfl (hb hby dl2s_7) rfl rfl rfl (XT.aa_eq_f (by simpa using hne)) ?_
    refine XS.iconst X5.here hx rfl (hb hby dl2s_10) ?_
    refine XS.goto X5.here hx rfl (pc0 := 11) (pc' := 15) rfl (hb hby dl2s_11) (by decide) (by decide) ?_
    exact k)
  obtain ⟨fs, hr, hrun, hended, hW, hsame⟩ := X5.leave (v := some (.int (2 : Int32))) (fun h => by rw [Bd.returns] at h; cases h)
  refine ⟨_, _, pre6 _ ?_, hrun, hended, _, _, rfl, ?_, ⟨_, rfl⟩, hW, hsame.mono (by decide) (by decide)⟩
  · exact retI X5 hx Bd.returns (hb hby dl2s_15) hr
  · show Q_l2s Z a1 y1 em h0 n0 _ T5.heap _
    rw [e5]
    exact ⟨rfl, N0, rfl⟩
theorem dlg0_0 : decode own_k16 0 = .ok (.iload_n 1, 1) := by decide +kernel
theorem dlg0_1 : decode own_k16 1 = .ok (.ifCond .ne 8, 3) := by decide +kernel
theorem dlg0_4 : decode own_k16 4 = .ok (.aload_n 0, 1) := by decide +kernel
theorem dlg0_5 : decode own_k16 5 = .ok (.getfield 13, 3) := by decide +kernel
theorem dlg0_8 : decode own_k16 8 = .ok (.areturn, 1) := by decide +kernel
theorem ef_lg0 (m : MethodId) (a1 : Addr) : entryFrame m #[(.ref a1), (.int (0 : Int32))] 2 = (mkF m 0 #[own_r a1, .val (.int (0 : Int32))] []) := by first | (simp [entryFrame, mkF, argsToLocals, Value.category]; done) | rfl
def Q_lg0 (Z : State) (a1 x1 : Addr) (h0 : Heap) (n0 : Nat) (v : Option Value) (h : Heap) (L : List Loc) : Prop := v = some (.ref x1) ∧ Fr n0 L ∧ h = h0
theorem rm_lg0 (l : Launch) (Z : State) (a0 : Array Value) (hw : own_W a0 Z) (ws : List Jvm.Cond) (a1 x1 : Addr) (h0 : Heap) (n0 : Nat) (Z0 : n0 ≤ h0.size) (F0 : Fld Z h0 a1 "java/util/ImmutableCollections$List12" "e0" "Ljava/lang/Object;" (.ref x1)) :
    own_M l Z h0 ws own_y4 jdk_44_method_5_code 2 (some (.object "java/lang/Object")) (⟨0, 0, 0, 0⟩ : Room) #[(.ref a1), (.int (0 : Int32))] (Q_lg0 Z a1 x1 h0 n0) := by
  refine MetFree.of_bodySF (plainFor_of_name pn_l1i) hisR ?_
  intro p e s m args below meth c s₁ Bd hml0 hP hK
  obtain ⟨rfl, hZ, hh⟩ := hP
  have hx := Bd.exec
  have hby := Bd.bytes
  have hml : c.maxLocals = 2 := hml0
  have hown : s.vm.findClass "java/util/ImmutableCollections$List12" = some m.cls := findClass_of_methodNamed Bd.named
  have hnm := (name_of_methodNamed Bd.named Bd.method).1
  have X0 : Stand p l e (⟨0, 0, 0, 0⟩ : Room) s m #[(.ref a1), (.int (0 : Int32))] below meth c s₁ [] 0 0 := Stand.of_body Bd
  have e0 : s₁.heap = h0 := by rw [← hh, Bd.state]; rfl
  have N0 := Fr.nil n0
  have pre0 : ∀ t, Steps p.tables e below (s₁.setTop (mkF m 0 #[own_r a1, .val (.int (0 : Int32))] [])) t → Steps p.tables e below (s₁.setTop (entryFrame m #[(.ref a1), (.int (0 : Int32))] 2)) t := fun t k => castTop (ef_lg0 m a1) k
  have pre2 : own_G p e below s₁ s₁ _ _ := fun t k => pre0 t (by
    refine XS.iloadN X0.here hx rfl (hb hby dlg0_0) rfl ?_
    refine XS.ifNo X0.here hx rfl (hb hby dlg0_1) rfl (XT.i0_ne_f rfl) ?_
    refine XS.aloadN X0.here hx rfl (hb hby dlg0_4) rfl rfl ?_
    exact k)
  obtain ⟨T3, X3, e3, st3⟩ := getF X0 hx hZ hown (host := "") (Or.inl (own_h hw 372 rfl)) Via.refl e0 F0 (g := (mkF m 5 #[own_r a1, .val (.int (0 : Int32))] [(.ref a1)])) rfl rfl (hb hby dlg0_5)
  have pre4 : own_G p e below T3 s₁ _ _ := fun t k => pre2 t (by
    refine st3 _ ?_
    exact k)
  obtain ⟨fs, hr, hrun, hended, hW, hsame⟩ := X3.leave (v := some (.ref x1)) (fun h => by rw [Bd.returns] at h; cases h)
  refine ⟨_, _, pre4 _ ?_, hrun, hended, _, _, rfl, ?_, ⟨_, rfl⟩, hW, hsame.mono (by decide) (by decide)⟩
  · show Steps p.tables e below (T3.setTop (mkF m 8 #[own_r a1, .val (.int (0 : Int32))] [(.ref x1)])) _
    jvm_step X3.here [X3.here.top, hx, (hb hby dlg0_8), X3.method', Bd.returns, Value.isRef, FieldType.isReference]
    first | (intro acts; rw [hr _ acts rfl rfl rfl]) | rw [hr _ _ rfl rfl rfl]
    exact Steps.refl _
  · show Q_lg0 Z a1 x1 h0 n0 _ T3.heap _
    rw [e3]
    exact ⟨rfl, N0, rfl⟩
theorem dlg1_0 : decode own_k16 0 = .ok (.iload_n 1, 1) := by decide +kernel
theorem dlg1_1 : decode own_k16 1 = .ok (.ifCond .ne 8, 3) := by decide +kernel
theorem dlg1_9 : decode own_k16 9 = .ok (.iload_n 1, 1) := by decide +kernel
theorem dlg1_10 : decode own_k16 10 = .ok (.iconst 1, 1) := by decide +kernel
theorem dlg1_11 : decode own_k16 11 = .ok (.if_icmp .ne 18, 3) := by decide +kernel
theorem dlg1_14 : decode own_k16 14 = .ok (.aload_n 0, 1) := by decide +kernel
theorem dlg1_15 : decode own_k16 15 = .ok (.getfield 24, 3) := by decide +kernel
theorem dlg1_18 : decode own_k16 18 = .ok (.getstatic 19, 3) := by decide +kernel
theorem dlg1_21 : decode own_k16 21 = .ok (.if_acmp .eq 8, 3) := by decide +kernel
theorem dlg1_24 : decode own_k16 24 = .ok (.aload_n 0, 1) := by decide +kernel
theorem dlg1_25 : decode own_k16 25 = .ok (.getfield 24, 3) := by decide +kernel
theorem dlg1_28 : decode own_k16 28 = .ok (.areturn, 1) := by decide +kernel
theorem ef_lg1 (m : MethodId) (a1 : Addr) : entryFrame m #[(.ref a1), (.int (1 : Int32))] 2 = (mkF m 0 #[own_r a1, .val (.int (1 : Int32))] []) := by first | (simp [entryFrame, mkF, argsToLocals, Value.category]; done) | rfl
def Q_lg1 (Z : State) (a1 y1 em : Addr) (h0 : Heap) (n0 : Nat) (v : Option Value) (h : Heap) (L : List Loc) : Prop := v = some (.ref y1) ∧ Fr n0 L ∧ h = h0
theorem rm_lg1 (l : Launch) (Z : State) (a0 : Array Value) (hw : own_W a0 Z) (ws : List Jvm.Cond) (a1 y1 em : Addr) (h0 : Heap) (n0 : Nat) (Z0 : n0 ≤ h0.size) (SEM : Sta Z h0 "java/util/ImmutableCollections" "EMPTY" "Ljava/lang/Object;" (.ref em)) (F1 : Fld Z h0 a1 "java/util/ImmutableCollections$List12" "e1" "Ljava/lang/Object;" (.ref y1)) (hne : ¬ y1 = em) :
    own_M l Z h0 ws own_y4 jdk_44_method_5_code 2 (some (.object "java/lang/Object")) (⟨0, 0, 0, 0⟩ : Room) #[(.ref a1), (.int (1 : Int32))] (Q_lg1 Z a1 y1 em h0 n0) := by
  refine MetFree.of_bodySF (plainFor_of_name pn_l1i) hisR ?_
  intro p e s m args below meth c s₁ Bd hml0 hP hK
  obtain ⟨rfl, hZ, hh⟩ := hP
  have hx := Bd.exec
  have hby := Bd.bytes
  have hml : c.maxLocals = 2 := hml0
  have hown : s.vm.findClass "java/util/ImmutableCollections$List12" = some m.cls := findClass_of_methodNamed Bd.named
  have hnm := (name_of_methodNamed Bd.named Bd.method).1
  have X0 : Stand p l e (⟨0, 0, 0, 0⟩ : Room) s m #[(.ref a1), (.int (1 : Int32))] below meth c s₁ [] 0 0 := Stand.of_body Bd
  have e0 : s₁.heap = h0 := by rw [← hh, Bd.state]; rfl
  have N0 := Fr.nil n0
  have pre0 : ∀ t, Steps p.tables e below (s₁.setTop (mkF m 0 #[own_r a1, .val (.int (1 : Int32))] [])) t → Steps p.tables e below (s₁.setTop (entryFrame m #[(.ref a1), (.int (1 : Int32))] 2)) t := fun t k => castTop (ef_lg1 m a1) k
  have pre2 : own_G p e below s₁ s₁ _ _ := fun t k => pre0 t (by
    refine XS.iloadN X0.here hx rfl (hb hby dlg1_0) rfl ?_
    refine XS.ifYes X0.here hx rfl (pc0 := 1) (pc' := 9) rfl (hb hby dlg1_1) rfl (XT.i0_ne_t (by decide)) (by decide) (by decide) ?_
    refine XS.iloadN X0.here hx rfl (hb hby dlg1_9) rfl ?_
    refine XS.iconst X0.here hx rfl (hb hby dlg1_10) ?_
    refine XS.icmpNo X0.here hx rfl (hb hby dlg1_11) rfl (XT.ii_ne_f rfl) ?_
    refine XS.aloadN X0.here hx rfl (hb hby dlg1_14) rfl rfl ?_
    exact k)
  obtain ⟨T3, X3, e3, st3⟩ := getF X0 hx hZ hown (host := "") (Or.inl (own_h hw 375 rfl)) Via.refl e0 F1 (g := (mkF m 15 #[own_r a1, .val (.int (1 : Int32))] [(.ref a1)])) rfl rfl (hb hby dlg1_15)
  have pre4 : own_G p e below T3 s₁ _ _ := fun t k => pre2 t (by
    refine st3 _ ?_
    exact k)
  obtain ⟨T5, X5, e5, st5⟩ := getS2 X3 hx hZ hown (Or.inr (own_h hw 374 rfl)) Via.refl e3 SEM (g := (mkF m 18 #[own_r a1, .val (.int (1 : Int32))] [(.ref y1)])) rfl (hb hby dlg1_18)
  have pre6 : own_G p e below T5 s₁ _ _ := fun t k => pre4 t (by
    refine st5 _ ?_
    refine XT.acmpNo X5.here hx rfl (hb hby dlg1_21) rfl rfl rfl (XT.aa_eq_f (by simpa using hne)) ?_
    refine XS.aloadN X5.here hx rfl (hb hby dlg1_24) rfl rfl ?_
    exact k)
  obtain ⟨T7, X7, e7, st7⟩ := getF X5 hx hZ hown (host := "") (Or.inl (own_h hw 375 rfl)) Via.refl e5 F1 (g := (mkF m 25 #[own_r a1, .val (.int (1 : Int32))] [(.ref a1)])) rfl rfl (hb hby dlg1_25)
  have pre8 : own_G p e below T7 s₁ _ _ := fun t k => pre6 t (by
    refine st7 _ ?_
    exact k)
  obtain ⟨fs, hr, hrun, hended, hW, hsame⟩ := X7.leave (v := some (.ref y1)) (fun h => by rw [Bd.returns] at h; cases h)
  refine ⟨_, _, pre8 _ ?_, hrun, hended, _, _, rfl, ?_, ⟨_, rfl⟩, hW, hsame.mono (by decide) (by decide)⟩
  · show Steps p.tables e below (T7.setTop (mkF m 28 #[own_r a1, .val (.int (1 : Int32))] [(.ref y1)])) _
    jvm_step X7.here [X7.here.top, hx, (hb hby dlg1_28), X7.method', Bd.returns, Value.isRef, FieldType.isReference]
    first | (intro acts; rw [hr _ acts rfl rfl rfl]) | rw [hr _ _ rfl rfl rfl]
    exact Steps.refl _
  · show Q_lg1 Z a1 y1 em h0 n0 _ T7.heap _
    rw [e7]
    exact ⟨rfl, N0, rfl⟩
theorem dlo0_0 : decode jdk_40_method_36_code 0 = .ok (.getstatic 90, 3) := by decide +kernel
theorem dlo0_3 : decode jdk_40_method_36_code 3 = .ok (.areturn, 1) := by decide +kernel
theorem pn_lo0 : plainName "java/util/List" = true := by first | (simp [plainName, overriddenIn]; done) | decide +kernel
theorem ef_lo0 (m : MethodId)  : entryFrame m #[] 0 = (mkF m 0 #[] []) := by first | (simp [entryFrame, mkF, argsToLocals, Value.category]; done) | rfl
def Q_lo0 (Z : State) (el : Addr) (h0 : Heap) (n0 : Nat) (v : Option Value) (h : Heap) (L : List Loc) : Prop := v = some (.ref el) ∧ Fr n0 L ∧ h = h0
theorem rm_lo0 (l : Launch) (Z : State) (a0 : Array Value) (hw : own_W a0 Z) (ws : List Jvm.Cond) (el : Addr) (h0 : Heap) (n0 : Nat) (Z0 : n0 ≤ h0.size) (SEL : Sta Z h0 "java/util/ImmutableCollections" "EMPTY_LIST" "Ljava/util/ImmutableCollections$ListN;" (.ref el))  :
    own_M l Z h0 ws own_y46 jdk_40_method_36_code 0 (some (.object "java/util/List")) (⟨0, 0, 0, 0⟩ : Room) #[] (Q_lo0 Z el h0 n0) := by
  refine MetFree.of_bodySF (plainFor_of_name pn_lo0) hisR ?_
  intro p e s m args below meth c s₁ Bd hml0 hP hK
  obtain ⟨rfl, hZ, hh⟩ := hP
  have hx := Bd.exec
  have hby := Bd.bytes
  have hml : c.maxLocals = 0 := hml0
  have hown : s.vm.findClass "java/util/List" = some m.cls := findClass_of_methodNamed Bd.named
  have hnm := (name_of_methodNamed Bd.named Bd.method).1
  have X0 : Stand p l e (⟨0, 0, 0, 0⟩ : Room) s m #[] below meth c s₁ [] 0 0 := Stand.of_body Bd
  have e0 : s₁.heap = h0 := by rw [← hh, Bd.state]; rfl
  have N0 := Fr.nil n0
  have pre0 : ∀ t, Steps p.tables e below (s₁.setTop (mkF m 0 #[] [])) t → Steps p.tables e below (s₁.setTop (entryFrame m #[] 0)) t := fun t k => castTop (ef_lo0 m ) k
  obtain ⟨T2, X2, e2, st2⟩ := getS2 X0 hx hZ hown (host := "") (Or.inl (own_h hw 84 rfl)) Via.refl e0 SEL (g := (mkF m 0 #[] [])) rfl (hb hby dlo0_0)
  have pre3 : own_G p e below T2 s₁ _ _ := fun t k => pre0 t (by
    refine st2 _ ?_
    exact k)
  obtain ⟨fs, hr, hrun, hended, hW, hsame⟩ := X2.leave (v := some (.ref el)) (fun h => by rw [Bd.returns] at h; cases h)
  refine ⟨_, _, pre3 _ ?_, hrun, hended, _, _, rfl, ?_, ⟨_, rfl⟩, hW, hsame.mono (by decide) (by decide)⟩
  · show Steps p.tables e below (T2.setTop (mkF m 3 #[] [(.ref el)])) _
    jvm_step X2.here [X2.here.top, hx, (hb hby dlo0_3), X2.method', Bd.returns, Value.isRef, FieldType.isReference]
    first | (intro acts; rw [hr _ acts rfl rfl rfl]) | rw [hr _ _ rfl rfl rfl]
    exact Steps.refl _
  · show Q_lo0 Z el h0 n0 _ T2.heap _
    rw [e2]
    exact ⟨rfl, N0, rfl⟩
def own_c8 : Int32 → List Int32 → Prop
  | i, [] => ¬ i < 64
  | i, _ :: r => i < 64 ∧ own_c8 (i + 8) r
theorem dmxj_0 : decode own_k12 0 = .ok (.lload_n 0, 1) := by decide +kernel
theorem dmxj_1 : decode own_k12 1 = .ok (.lstore 4, 2) := by decide +kernel
theorem dmxj_3 : decode own_k12 3 = .ok (.iconst 0, 1) := by decide +kernel
theorem dmxj_4 : decode own_k12 4 = .ok (.istore 6, 2) := by decide +kernel
theorem dmxj_6 : decode own_k12 6 = .ok (.iload 6, 2) := by decide +kernel
theorem dmxj_8 : decode own_k12 8 = .ok (.bipush 64, 2) := by decide +kernel
theorem dmxj_10 : decode own_k12 10 = .ok (.if_icmp .ge 26, 3) := by decide +kernel
theorem dmxj_13 : decode own_k12 13 = .ok (.lload 4, 2) := by decide +kernel
theorem dmxj_15 : decode own_k12 15 = .ok (.lload_n 2, 1) := by decide +kernel
theorem dmxj_16 : decode own_k12 16 = .ok (.iload 6, 2) := by decide +kernel
theorem dmxj_18 : decode own_k12 18 = .ok (.lushr, 1) := by decide +kernel
theorem dmxj_19 : decode own_k12 19 = .ok (.ldc2_w 111, 3) := by decide +kernel
theorem dmxj_22 : decode own_k12 22 = .ok (.land, 1) := by decide +kernel
theorem dmxj_23 : decode own_k12 23 = .ok (.lxor, 1) := by decide +kernel
theorem dmxj_24 : decode own_k12 24 = .ok (.ldc2_w 109, 3) := by decide +kernel
theorem dmxj_27 : decode own_k12 27 = .ok (.lmul, 1) := by decide +kernel
theorem dmxj_28 : decode own_k12 28 = .ok (.lstore 4, 2) := by decide +kernel
theorem dmxj_30 : decode own_k12 30 = .ok (.iinc 6 8, 3) := by decide +kernel
theorem dmxj_33 : decode own_k12 33 = .ok (.goto (-27), 3) := by decide +kernel
theorem dmxj_36 : decode own_k12 36 = .ok (.lload 4, 2) := by decide +kernel
theorem dmxj_38 : decode own_k12 38 = .ok (.lreturn, 1) := by decide +kernel
theorem pn_mxj : plainName "com/example/tributary/tributary/merge/Tree" = true := by first | (simp [plainName, overriddenIn]; done) | decide +kernel
theorem ef_mxj (m : MethodId) (p1 : Int64) (p2 : Int64) : entryFrame m #[(.long p1), (.long p2)] 7 = (mkF m 0 #[.val (.long p1), .second, .val (.long p2), .second, .unset, .unset, .unset] []) := by first | (simp [entryFrame, mkF, argsToLocals, Value.category]; done) | rfl
def Q_mxj (Z : State) (p1 p2 : Int64) (h0 : Heap) (n0 : Nat) (v : Option Value) (h : Heap) (L : List Loc) : Prop := ∃ q : Int64, v = some (.long q) ∧ Fr n0 L ∧ h = h0
theorem rs_mxj_1 (l : Launch) (Z : State) (a0 : Array Value) (hw : own_W a0 Z) (ws : List Jvm.Cond) (p1 p2 : Int64) (h0 : Heap) (n0 : Nat)  {p e s m below meth c s₁} (Bd : BodyLoose p l own_y14 (head1 (Jvm.Cond.code own_y14 prog_45_method_4_code 7 (some .long) :: ws) (⟨0, 0, 0, 0⟩ : Room)) prog_45_method_4_code 7 (some .long) e s m #[(.long p1), (.long p2)] below meth c s₁) (hZ : Z.Warmed39 s.vm) (hml : c.maxLocals = 7) :
    ∀ (post : List Int32) (i : Int32) (q : Int64) (Tc : State) (Lc0 : List Loc) (hhc : Heap) (Xc : Stand p l e (⟨0, 0, 0, 0⟩ : Room) s m #[(.long p1), (.long p2)] below meth c Tc Lc0 0 0) (ec : Tc.heap = hhc) (Nc : Fr n0 Lc0) (Zc : n0 ≤ hhc.size) (prec : ∀ t, Steps p.tables e below (Tc.setTop (mkF m 6 #[.val (.long p1), .second, .val (.long p2), .second, .val (.long q), .second, own_i i] [])) t → Steps p.tables e below (s₁.setTop (entryFrame m #[(.long p1), (.long p2)] 7)) t) (hok : own_c8 i post) (hhe : hhc = h0),
    ∃ s₂ o, Steps p.tables e below (s₁.setTop (entryFrame m #[(.long p1), (.long p2)] 7)) s₂ ∧ s₂.status = .running ∧ Ended s₂ below o ∧ ∃ v L, o = .returned v ∧ Q_mxj Z p1 p2 h0 n0 v s₂.heap L ∧ FrameEnd s o s₂ L (⟨0, 0, 0, 0⟩ : Room).cells (⟨0, 0, 0, 0⟩ : Room).slots := by
  have hx := Bd.exec
  have hby := Bd.bytes
  have hown : s.vm.findClass "com/example/tributary/tributary/merge/Tree" = some m.cls := findClass_of_methodNamed Bd.named
  have hnm := (name_of_methodNamed Bd.named Bd.method).1
  intro post
  induction post with
  | nil =>
    intro i q Tc Lc0 hhc Xc ec Nc Zc prec hok hhe
    have pre3 : own_G p e below Tc s₁ _ _ := fun t k => prec t (by
      refine XS.iload Xc.here hx rfl (hb hby dmxj_6) rfl ?_
      refine XS.bipush Xc.here hx rfl (hb hby dmxj_8) ?_
      refine XS.icmpYes Xc.here hx rfl (pc0 := 10) (pc' := 36) rfl (hb hby dmxj_10) rfl (XT.ii_ge_t (show ¬ i < 64 from hok)) (by decide) (by decide) ?_
      refine XT.lload Xc.here hx rfl (hb hby dmxj_36) rfl ?_
      exact k)
    obtain ⟨fs, hr, hrun, hended, hW, hsame⟩ := Xc.leave (v := some (.long q)) (fun h => by rw [Bd.returns] at h; cases h)
    refine ⟨_, _, pre3 _ ?_, hrun, hended, _, _, rfl, ?_, ⟨_, rfl⟩, hW, hsame.mono (by decide) (by decide)⟩
    · exact Xc.lreturnOut hx Bd.returns (hb hby dmxj_38) hr
    · show Q_mxj Z p1 p2 h0 n0 _ Tc.heap _
      rw [ec]
      exact ⟨_, rfl, Nc, hhe⟩
  | cons ch post ih =>
    intro i q Tc Lc0 hhc Xc ec Nc Zc prec hok hhe
    obtain ⟨h1, h2⟩ := hok
    have pre4 : own_G p e below Tc s₁ _ _ := fun t k => prec t (by
      refine XS.iload Xc.here hx rfl (hb hby dmxj_6) rfl ?_
      refine XS.bipush Xc.here hx rfl (hb hby dmxj_8) ?_
      refine XS.icmpNo Xc.here hx rfl (hb hby dmxj_10) rfl (XT.ii_ge_f h1) ?_
      refine XT.lload Xc.here hx rfl (hb hby dmxj_13) rfl ?_
      refine XT.lloadN Xc.here hx rfl (hb hby dmxj_15) rfl ?_
      refine XS.iload Xc.here hx rfl (hb hby dmxj_16) rfl ?_
      refine XT.lushr Xc.here hx rfl (hb hby dmxj_18) rfl ?_
      refine Xc.ldc2J hx hown (mvT hZ (own_h hw 141 rfl)) rfl (hb hby dmxj_19) ?_
      refine XT.land Xc.here hx rfl (hb hby dmxj_22) rfl ?_
      refine XT.lxor Xc.here hx rfl (hb hby dmxj_23) rfl ?_
      refine Xc.ldc2J hx hown (mvT hZ (own_h hw 140 rfl)) rfl (hb hby dmxj_24) ?_
      refine XT.lmul Xc.here hx rfl (hb hby dmxj_27) rfl ?_
      refine XT.lstore Xc.here hx rfl (hb hby dmxj_28) rfl (l' := #[.val (.long p1), .second, .val (.long p2), .second, .val (.long ((q ^^^ ((XT.ushrL p2 i) &&& (255 : Int64))) * (1099511628211 : Int64))), .second, own_i i]) rfl ?_
      refine XT.iincV Xc.here hx rfl (8 : Int32) (hb hby dmxj_30) (by decide) rfl (l' := #[.val (.long p1), .second, .val (.long p2), .second, .val (.long ((q ^^^ ((XT.ushrL p2 i) &&& (255 : Int64))) * (1099511628211 : Int64))), .second, .val (.int (i + (8 : Int32)))]) rfl ?_
      refine XS.goto Xc.here hx rfl (pc0 := 33) (pc' := 6) rfl (hb hby dmxj_33) (by decide) (by decide) ?_
      exact k)
    exact ih ((i + (8 : Int32))) (((q ^^^ ((XT.ushrL p2 i) &&& (255 : Int64))) * (1099511628211 : Int64))) Tc _ hhc Xc ec Nc Zc pre4 h2 hhe
theorem rm_mxj (l : Launch) (Z : State) (a0 : Array Value) (hw : own_W a0 Z) (ws : List Jvm.Cond) (p1 p2 : Int64) (h0 : Heap) (n0 : Nat) (Z0 : n0 ≤ h0.size)  :
    own_M l Z h0 ws own_y14 prog_45_method_4_code 7 (some .long) (⟨0, 0, 0, 0⟩ : Room) #[(.long p1), (.long p2)] (Q_mxj Z p1 p2 h0 n0) := by
  refine MetFree.of_bodySF (plainFor_of_name pn_mxj) hisR ?_
  intro p e s m args below meth c s₁ Bd hml0 hP hK
  obtain ⟨rfl, hZ, hh⟩ := hP
  have hx := Bd.exec
  have hby := Bd.bytes
  have hml : c.maxLocals = 7 := hml0
  have hown : s.vm.findClass "com/example/tributary/tributary/merge/Tree" = some m.cls := findClass_of_methodNamed Bd.named
  have hnm := (name_of_methodNamed Bd.named Bd.method).1
  have X0 : Stand p l e (⟨0, 0, 0, 0⟩ : Room) s m #[(.long p1), (.long p2)] below meth c s₁ [] 0 0 := Stand.of_body Bd
  have e0 : s₁.heap = h0 := by rw [← hh, Bd.state]; rfl
  have N0 := Fr.nil n0
  have pre0 : ∀ t, Steps p.tables e below (s₁.setTop (mkF m 0 #[.val (.long p1), .second, .val (.long p2), .second, .unset, .unset, .unset] [])) t → Steps p.tables e below (s₁.setTop (entryFrame m #[(.long p1), (.long p2)] 7)) t := fun t k => castTop (ef_mxj m p1 p2) k
  have pre2 : own_G p e below s₁ s₁ _ _ := fun t k => pre0 t (by
    refine XT.lloadN X0.here hx rfl (hb hby dmxj_0) rfl ?_
    refine XT.lstore X0.here hx rfl (hb hby dmxj_1) rfl (l' := #[.val (.long p1), .second, .val (.long p2), .second, .val (.long p1), .second, .unset]) rfl ?_
    refine XS.iconst X0.here hx rfl (hb hby dmxj_3) ?_
    refine XS.istore X0.here hx rfl (hb hby dmxj_4) rfl (l' := #[.val (.long p1), .second, .val (.long p2), .second, .val (.long p1), .second, .val (.int (0 : Int32))]) rfl ?_
    exact k)
  exact rs_mxj_1 l Z a0 hw ws p1 p2 h0 n0  Bd hZ hml ([0, 0, 0, 0, 0, 0, 0, 0]) ((0 : Int32)) p1 s₁ _ h0 X0 e0 N0 Z0 pre2 (⟨by decide, by decide, by decide, by decide, by decide, by decide, by decide, by decide, by show ¬ (0 + 8 + 8 + 8 + 8 + 8 + 8 + 8 + 8 : Int32) < 64; decide⟩) rfl
theorem own_root {Z : State} {a0 : Array Value} {O K : String} {n : Nat} (w : (Jvm.Cond.noSuperclass O).before a0 Z = true) (wk : (Jvm.Cond.instantiable K n).before a0 Z = true) (hn : O ≠ K) : NS Z O K := by
  obtain ⟨c, k, h1, h2, h3, -, -⟩ := Cond.noSuperclass_spec w
  obtain ⟨t, kt, g1, -⟩ := Cond.instantiable_spec wk
  have ne := ids_ne h1 g1 hn
  refine ⟨c, t, h1, g1, fun fuel => ?_⟩
  cases fuel with
  | zero => rfl
  | succ f => simp [Vm.isSubclassAux, ne, h2, h3]
theorem own_no {Z : State} {a0 : Array Value} {O S K : String} {n : Nat} (w : (Jvm.Cond.superclass O S).before a0 Z = true) (wk : (Jvm.Cond.instantiable K n).before a0 Z = true) (ns : NS Z O K) (hn : O ≠ K) : ∃ c t, Z.vm.findClass O = some c ∧ Z.vm.findClass K = some t ∧ Z.vm.assignable c t = false := by
  obtain ⟨c, t, h0, g0, n3⟩ := ns
  obtain ⟨p, k, kp, h1, h2, h3, h4, h5, -, h7⟩ := Cond.superclass_spec h0 w
  obtain ⟨t', kt, g1, g2, g5, g7, -⟩ := Cond.instantiable_spec wk
  cases g0.symm.trans g1
  have g8 : kt.isInterface = false := by cases hh : kt.isInterface with
    | false => rfl
    | true => rw [hh] at g7; cases g7
  have ne := ids_ne h0 g0 hn
  refine ⟨c, t, h0, g0, ?_⟩
  show Z.vm.assignableAux (255 + 1) c t = false
  simp [Vm.assignableAux, ne, h2, g2, h5, g5, g8, Vm.isSubclass, n3]
theorem own_tks {Z T : State} {h : Heap} {b : Addr} {B : Cell} {v : Value} (F : Sto Z h b v) (hal : Z.vm.Alike T.vm) (eT : T.heap = h) (hB : h[b]? = some B) : XT.Tks B v T := by
  rcases F with rfl | ⟨cell, cv, k, kv, kc, comp, t, y, h1, h2, h3, h4, h5, h6, h7, h8, h9⟩
  · exact Or.inl rfl
  · cases h1.symm.trans hB
    obtain ⟨kv', a1, -⟩ := hal.2.2 _ _ h8
    obtain ⟨k', a2, e2⟩ := hal.2.2 _ _ h2
    obtain ⟨kc', a3, -⟩ := hal.2.2 _ _ h4
    exact Or.inr ⟨y, cv, kv', k', kc', comp, t, h5, by rw [eT]; exact h6, (fun q e => by rw [e] at h7; cases h7), a1, a2, by rw [e2]; exact h3, a3, by rw [hal.assignable]; exact h9⟩
theorem own_acopyR {p : Program} {l : Launch} {e : Env} {R : Room} {s : State} {m : MethodId} {args : Array Value} {below : List Frame} {meth : Method} {c : Code} {T : State} {locs : List Loc} {cells slots : Nat} {Z : State} {h : Heap}
    (X : Stand p l e R s m args below meth c T locs cells slots) (hx : p.tables.exec = Jvm.exec) (hZ : Z.Warmed39 s.vm) {own : String} {index : Nat} (hown : s.vm.findClass own = some m.cls) (hw : ∀ w ∈ XT.acW own index, w.before args s = true) (eT : T.heap = h)
    {a b : Addr} {ka kb : ClassId} {z n : Int32} {vs : List Value} (VA : Arv Z h a ka (.object "java/lang/Object") z vs .null) (VB : Arv Z h b kb (.object "java/lang/Object") n [] .null) (hn : n = Int32.ofNat vs.length) (hz : vs.length ≤ z.toNatClampNeg) (hl : vs.length < 2 ^ 31) (hst : ∀ i, i < vs.length → Sto Z h b (vs.getD i .null))
    {g : JFrame} (hg : g.method = m) (hsize : g.locals.size = c.maxLocals) {rest : List Value} (hstack : g.stack = .int n :: .int 0 :: .ref b :: .int 0 :: .ref a :: rest) (hdg : decode c.code g.pc = .ok (.invokestatic index, 3))
    {W : Nat} (hW : 2 * g.monitorRoom + (rest.map fun v => v.category).sum ≤ W) (hfr : 1 ≤ R.frames) (hlo : W + 40 ≤ R.locals) :
    ∃ (T' : State) (h' : Heap), Stand p l e R s m args below meth c T' (locs ++ copyLocs b 0 vs.length) cells slots ∧ T'.heap = h' ∧ Keep h h' [b] ∧ Arv Z h' b kb (.object "java/lang/Object") n vs .null ∧
      ∀ target, Steps p.tables e below (T'.setTop { g with pc := g.pc + 3, stack := rest }) target → Steps p.tables e below (T.setTop g) target := by
  obtain ⟨A, ArA, kcA, SA, MA, HA, GA⟩ := VA
  obtain ⟨B, ArB, kcB, SB, MB, HB, GB⟩ := VB
  have sA : A.slots.size < 2 ^ 31 := by rw [SA]; show z.toInt.toNat < _; have := z.toInt_lt; omega
  have nb : n.toNatClampNeg = vs.length := by rw [hn]; exact XT.n32 hl
  have sB : B.slots.size = vs.length := by rw [SB, nb]
  have hAT : XT.Arr (.object "java/lang/Object") a A T := ⟨by rw [eT]; exact ArA.1, State.isArrayOf_alike (hZ.alike.trans X.warmed.alike) ArA.2.1, ArA.2.2, sA⟩
  have hBT : XT.Arr (.object "java/lang/Object") b B T := ⟨by rw [eT]; exact ArB.1, State.isArrayOf_alike (hZ.alike.trans X.warmed.alike) ArB.2.1, ArB.2.2, by rw [sB]; exact hl⟩
  have hat : ∀ i, i < vs.length → A.slots.getD i .null = vs.getD i .null := fun i hi => by
    have q := HA i (by rw [SA]; omega)
    simp [Array.getD_eq_getD_getElem?, q]
  obtain ⟨T', B', X', P, bc, bv, bs, bg, st⟩ := X.acopy hx hown hw hAT hBT rfl (o := 0) (q := 0) (n := vs.length) rfl rfl hn (by rw [SA]; omega) (by rw [sB]; omega)
    (fun i hi => ⟨by rw [Nat.zero_add, hat i hi]; exact GA i (by rw [SA]; omega), fun _ => by rw [Nat.zero_add, hat i hi]; exact own_tks (hst i hi) (hZ.alike.trans X.warmed.alike) eT ArB.1⟩) hg hsize hstack hdg hW hfr hlo
  refine ⟨T', T'.heap, X', rfl, ⟨by rw [P.2.2, eT]; exact Nat.le_refl _, fun x cx q r => ?_, fun x cx q => ?_⟩, ⟨B', ⟨P.1, ?_, ?_⟩, bc.trans kcB, by rw [bs, SB], MB, fun i hi => ?_, fun i hi => ?_⟩, st⟩
  · rw [P.2.1 x (fun e => r (by rw [e]; exact List.mem_singleton.mpr rfl)), eT]; exact q
  · by_cases e : x = b
    · subst e
      cases ArB.1.symm.trans q
      exact ⟨B', P.1, bc, bv, bs⟩
    · exact ⟨cx, by rw [P.2.1 x e, eT]; exact q, rfl, rfl, rfl⟩
  · obtain ⟨o1, k1, o2, o3, o4⟩ := ArB.2.1
    exact ⟨fun y hy => o1 y (by rw [← bv]; exact hy), k1, by rw [bc]; exact o2, o3, o4⟩
  · rw [bv]; exact ArB.2.2
  · rw [bs, sB] at hi
    rw [bg i, if_pos ⟨Nat.zero_le _, by omega⟩]
    simp only [Nat.sub_zero, Nat.zero_add]
    rw [hat i hi]
  · rw [bs, sB] at hi
    exact GA i (by rw [SA]; omega)
theorem own_ldcM {p : Program} {l : Launch} {e : Env} {R : Room} {s : State} {m : MethodId} {args : Array Value} {below : List Frame} {meth : Method} {c : Code} {T : State} {locs : List Loc} {cells slots : Nat} {Z : State} {h : Heap}
    (X : Stand p l e R s m args below meth c T locs cells slots) (hx : p.tables.exec = Jvm.exec) (hZ : Z.Warmed39 s.vm) {a0 : Array Value} {own C : String} {index : Nat} (hown : s.vm.findClass own = some m.cls) (w : (Jvm.Cond.classLink own index C).before a0 Z = true) (eT : T.heap = h) {mr : Addr} (M : Mir Z C mr)
    {g : JFrame} (hg : g.method = m) (hd : decode c.code g.pc = .ok (.ldc index, 2)) :
    ∃ T', Stand p l e R s m args below meth c T' locs cells slots ∧ T'.heap = h ∧ ∀ target, Steps p.tables e below (T'.setTop { g with pc := g.pc + 2, stack := .ref mr :: g.stack }) target → Steps p.tables e below (T.setTop g) target := by
  obtain ⟨cc, kc, m1, m2, m3, -⟩ := M
  obtain ⟨k', q, ek⟩ := hZ.alike.2.2 _ _ m2
  have hf : s.vm.findClass C = some cc := by rw [hZ.alike.findClass]; exact m1
  have hm : k'.mirror = some mr := by rw [ek]; exact m3
  obtain ⟨vm', X', st⟩ := X.ldcMirror hx hown (mvT hZ w) (a := mr) (by simp [Jvm.Term.eval, hf, q, hm]) hg hd
  exact ⟨_, X', eT, st⟩
theorem own_acw {Z s : State} {a0 args : Array Value} (hZ : Z.Warmed39 s.vm) (hw : own_W a0 Z) : ∀ w ∈ XT.acW "java/util/Arrays" 150, w.before args s = true := fun w hm => by
  simp only [XT.acW, List.mem_cons, List.not_mem_nil, or_false] at hm
  rcases hm with rfl | rfl | rfl | rfl
  · exact mvT hZ (own_h hw 242 rfl)
  · exact mvT hZ (own_h hw 245 rfl)
  · exact mvT hZ (own_h hw 243 rfl)
  · exact mvT hZ (own_h hw 244 rfl)
theorem own_n3 {n : Int32} {xs : List Addr} (hn : n = Int32.ofNat xs.length) (h3 : xs.length ≤ 3) : ¬ n < 0 ∧ n.toNatClampNeg ≤ 3 ∧ ¬ (10 : Int32) < n := by
  have h : xs.length = 0 ∨ xs.length = 1 ∨ xs.length = 2 ∨ xs.length = 3 := by omega
  rcases h with h | h | h | h <;> rw [hn, h] <;> decide
theorem own_stos {Z : State} {h : Heap} {b : Addr} {xs : List Addr} (H : ∀ x ∈ xs, Sto Z h b (.ref x)) : ∀ i, i < (xs.map Value.ref).length → Sto Z h b ((xs.map Value.ref).getD i .null) := fun i hi => by
  rw [List.length_map] at hi
  have e : (xs.map Value.ref).getD i .null = .ref xs[i] := by simp [List.getD_eq_getElem?_getD, hi]
  rw [e]; exact H _ (List.getElem_mem hi)
def own_min (x y : Int32) : Int32 := if y < x then y else x
theorem own_mi {n : Int32} (h : ¬ (10 : Int32) < n) : own_min (10 : Int32) n = n := by
  unfold own_min
  by_cases q : n < 10
  · rw [if_pos q]
  · rw [if_neg q]; exact Int32.le_antisymm (Int32.not_lt.mp q) (Int32.not_lt.mp h)
theorem dmn_0 : decode own_k34 0 = .ok (.iload_n 0, 1) := by decide +kernel
theorem dmn_1 : decode own_k34 1 = .ok (.iload_n 1, 1) := by decide +kernel
theorem dmn_2 : decode own_k34 2 = .ok (.if_icmp .gt 7, 3) := by decide +kernel
theorem dmn_5 : decode own_k34 5 = .ok (.iload_n 0, 1) := by decide +kernel
theorem dmn_6 : decode own_k34 6 = .ok (.goto 4, 3) := by decide +kernel
theorem dmn_9 : decode own_k34 9 = .ok (.iload_n 1, 1) := by decide +kernel
theorem dmn_10 : decode own_k34 10 = .ok (.ireturn, 1) := by decide +kernel
theorem pn_mn : plainFor own_y29 = true := by decide +kernel
theorem ef_mn (m : MethodId) (p1 : Int32) (p2 : Int32) : entryFrame m #[(.int p1), (.int p2)] 2 = (mkF m 0 #[own_i p1, own_i p2] []) := by first | (simp [entryFrame, mkF, argsToLocals, Value.category]; done) | rfl
def Q_mn (Z : State) (p1 p2 : Int32) (h0 : Heap) (n0 : Nat) (v : Option Value) (h : Heap) (L : List Loc) : Prop := v = some (.int (own_min p1 p2)) ∧ Fr n0 L ∧ h = h0
theorem rm_mn (l : Launch) (Z : State) (a0 : Array Value) (hw : own_W a0 Z) (ws : List Jvm.Cond) (p1 p2 : Int32) (h0 : Heap) (n0 : Nat) (Z0 : n0 ≤ h0.size)  :
    own_M l Z h0 ws own_y29 jdk_29_method_69_code 2 (some .int) (⟨0, 0, 0, 0⟩ : Room) #[(.int p1), (.int p2)] (Q_mn Z p1 p2 h0 n0) := by
  refine MetFree.of_bodySF pn_mn hisR ?_
  intro p e s m args below meth c s₁ Bd hml0 hP hK
  obtain ⟨rfl, hZ, hh⟩ := hP
  have hx := Bd.exec
  have hby := Bd.bytes
  have hml : c.maxLocals = 2 := hml0
  have hown : s.vm.findClass "java/lang/Math" = some m.cls := findClass_of_methodNamed Bd.named
  have hnm := (name_of_methodNamed Bd.named Bd.method).1
  have X0 : Stand p l e (⟨0, 0, 0, 0⟩ : Room) s m #[(.int p1), (.int p2)] below meth c s₁ [] 0 0 := Stand.of_body Bd
  have e0 : s₁.heap = h0 := by rw [← hh, Bd.state]; rfl
  have N0 := Fr.nil n0
  have pre0 : ∀ t, Steps p.tables e below (s₁.setTop (mkF m 0 #[own_i p1, own_i p2] [])) t → Steps p.tables e below (s₁.setTop (entryFrame m #[(.int p1), (.int p2)] 2)) t := fun t k => castTop (ef_mn m p1 p2) k
  have pre2 : own_G p e below s₁ s₁ _ _ := fun t k => pre0 t (by
    refine XS.iloadN X0.here hx rfl (hb hby dmn_0) rfl ?_
    refine XS.iloadN X0.here hx rfl (hb hby dmn_1) rfl ?_
    exact k)
  by_cases hc : p2 < p1
  · skip
    have hf : own_min p1 p2 = p2 := if_pos hc
    have pre3 : own_G p e below s₁ s₁ _ _ := fun t k => pre2 t (by
      refine XS.icmpYes X0.here hx rfl (pc0 := 2) (pc' := 9) rfl (hb hby dmn_2) rfl (XT.ii_gt_t hc) (by decide) (by decide) ?_
      refine XS.iloadN X0.here hx rfl (hb hby dmn_9) rfl ?_
      exact k)
    obtain ⟨fs, hr, hrun, hended, hW, hsame⟩ := X0.leave (v := some (.int p2)) (fun h => by rw [Bd.returns] at h; cases h)
    refine ⟨_, _, pre3 _ ?_, hrun, hended, _, _, rfl, ?_, ⟨_, rfl⟩, hW, hsame.mono (by decide) (by decide)⟩
    · exact retI X0 hx Bd.returns (hb hby dmn_10) hr
    · show Q_mn Z p1 p2 h0 n0 _ s₁.heap _
      unfold Q_mn; rw [hf]
      rw [e0]
      exact ⟨rfl, N0, rfl⟩
  · skip
    have hf : own_min p1 p2 = p1 := if_neg hc
    have pre3 : own_G p e below s₁ s₁ _ _ := fun t k => pre2 t (by
      refine XS.icmpNo X0.here hx rfl (hb hby dmn_2) rfl (XT.ii_gt_f hc) ?_
      refine XS.iloadN X0.here hx rfl (hb hby dmn_5) rfl ?_
      refine XS.goto X0.here hx rfl (pc0 := 6) (pc' := 10) rfl (hb hby dmn_6) (by decide) (by decide) ?_
      exact k)
    obtain ⟨fs, hr, hrun, hended, hW, hsame⟩ := X0.leave (v := some (.int p1)) (fun h => by rw [Bd.returns] at h; cases h)
    refine ⟨_, _, pre3 _ ?_, hrun, hended, _, _, rfl, ?_, ⟨_, rfl⟩, hW, hsame.mono (by decide) (by decide)⟩
    · exact retI X0 hx Bd.returns (hb hby dmn_10) hr
    · show Q_mn Z p1 p2 h0 n0 _ s₁.heap _
      unfold Q_mn; rw [hf]
      rw [e0]
      exact ⟨rfl, N0, rfl⟩
theorem own_cl {n0 : Nat} {b : Addr} {vs : List Value} (g : n0 ≤ b) : Fr n0 (copyLocs b 0 vs.length) := fun y hy => by
  simp only [copyLocs, List.mem_map] at hy
  obtain ⟨i, -, rfl⟩ := hy
  exact g
theorem dcp3_0 : decode own_k15 0 = .ok (.aload_n 2, 1) := by decide +kernel
theorem dcp3_1 : decode own_k15 1 = .ok (.ldc 110, 2) := by decide +kernel
theorem dcp3_3 : decode own_k15 3 = .ok (.if_acmp .ne 10, 3) := by decide +kernel
theorem dcp3_6 : decode own_k15 6 = .ok (.iload_n 1, 1) := by decide +kernel
theorem dcp3_7 : decode own_k15 7 = .ok (.anewarray 2, 3) := by decide +kernel
theorem dcp3_10 : decode own_k15 10 = .ok (.goto 14, 3) := by decide +kernel
theorem dcp3_24 : decode own_k15 24 = .ok (.astore_n 3, 1) := by decide +kernel
theorem dcp3_25 : decode own_k15 25 = .ok (.aload_n 0, 1) := by decide +kernel
theorem dcp3_26 : decode own_k15 26 = .ok (.iconst 0, 1) := by decide +kernel
theorem dcp3_27 : decode own_k15 27 = .ok (.aload_n 3, 1) := by decide +kernel
theorem dcp3_28 : decode own_k15 28 = .ok (.iconst 0, 1) := by decide +kernel
theorem dcp3_29 : decode own_k15 29 = .ok (.aload_n 0, 1) := by decide +kernel
theorem dcp3_30 : decode own_k15 30 = .ok (.arraylength, 1) := by decide +kernel
theorem dcp3_31 : decode own_k15 31 = .ok (.iload_n 1, 1) := by decide +kernel
theorem dcp3_32 : decode own_k15 32 = .ok (.invokestatic 304, 3) := by decide +kernel
theorem dcp3_35 : decode own_k15 35 = .ok (.invokestatic 150, 3) := by decide +kernel
theorem dcp3_38 : decode own_k15 38 = .ok (.aload_n 3, 1) := by decide +kernel
theorem dcp3_39 : decode own_k15 39 = .ok (.areturn, 1) := by decide +kernel
theorem pn_cp3 : plainName "java/util/Arrays" = true := by first | (simp [plainName, overriddenIn]; done) | decide +kernel
theorem ef_cp3 (m : MethodId) (b1 : Addr) (n : Int32) (mr : Addr) : entryFrame m #[(.ref b1), (.int n), (.ref mr)] 4 = (mkF m 0 #[own_r b1, own_i n, own_r mr, .unset] []) := by first | (simp [entryFrame, mkF, argsToLocals, Value.category]; done) | rfl
def Q_cp3 (Z : State) (b1 mr : Addr) (n : Int32) (k1 : ClassId) (xs : List Addr) (h0 : Heap) (n0 : Nat) (v : Option Value) (h : Heap) (L : List Loc) : Prop := ∃ (br : Addr) (kr : ClassId), v = some (.ref br) ∧ Fr n0 L ∧ Keep h0 h [] ∧ n0 ≤ br ∧ h0.size ≤ br ∧ Arv Z h br kr (.object "java/lang/Object") n (xs.map Value.ref) .null
theorem rm_cp3 (l : Launch) (Z : State) (a0 : Array Value) (hw : own_W a0 Z) (ws : List Jvm.Cond) (b1 mr : Addr) (n : Int32) (k1 : ClassId) (xs : List Addr) (h0 : Heap) (n0 : Nat) (Z0 : n0 ≤ h0.size) (M1 : Mir Z "[Ljava/lang/Object;" mr) (V1 : Arv Z h0 b1 k1 (.object "java/lang/Object") (10 : Int32) (xs.map Value.ref) .null) (EB : Exa Z h0 b1 "[Ljava/lang/Object;") (HX : ∀ x ∈ xs, Exa Z h0 x "com/example/tributary/tributary/merge/Tree") (hn : n = Int32.ofNat xs.length) (h3 : xs.length ≤ 3)  :
    own_M l Z h0 ws own_y47 jdk_65_method_120_code 4 (some (.array (.object "java/lang/Object"))) (⟨1, 1, 3, 40⟩ : Room) #[(.ref b1), (.int n), (.ref mr)] (Q_cp3 Z b1 mr n k1 xs h0 n0) := by
  refine MetFree.of_bodySF (plainFor_of_name pn_cp3) hisR ?_
  intro p e s m args below meth c s₁ Bd hml0 hP hK
  obtain ⟨rfl, hZ, hh⟩ := hP
  have hx := Bd.exec
  have hby := Bd.bytes
  have hml : c.maxLocals = 4 := hml0
  have hown : s.vm.findClass "java/util/Arrays" = some m.cls := findClass_of_methodNamed Bd.named
  have hnm := (name_of_methodNamed Bd.named Bd.method).1
  have X0 : Stand p l e (⟨1, 1, 3, 40⟩ : Room) s m #[(.ref b1), (.int n), (.ref mr)] below meth c s₁ [] 0 0 := Stand.of_body Bd
  have e0 : s₁.heap = h0 := by rw [← hh, Bd.state]; rfl
  have N0 := Fr.nil n0
  have pre0 : ∀ t, Steps p.tables e below (s₁.setTop (mkF m 0 #[own_r b1, own_i n, own_r mr, .unset] [])) t → Steps p.tables e below (s₁.setTop (entryFrame m #[(.ref b1), (.int n), (.ref mr)] 4)) t := fun t k => castTop (ef_cp3 m b1 n mr) k
  have hn3 := own_n3 hn h3
  have K2 : Keep h0 h0 [] := Keep.refl h0 []
  have pre3 : own_G p e below s₁ s₁ _ _ := fun t k => pre0 t (by
    refine XS.aloadN X0.here hx rfl (hb hby dcp3_0) rfl rfl ?_
    exact k)
  obtain ⟨T4, X4, e4, st4⟩ := own_ldcM X0 hx hZ hown (own_h hw 237 rfl) e0 M1 (g := (mkF m 1 #[own_r b1, own_i n, own_r mr, .unset] [(.ref mr)])) rfl (hb hby dcp3_1)
  have pre5 : own_G p e below T4 s₁ _ _ := fun t k => pre3 t (by
    refine st4 _ ?_
    refine XT.acmpNo X4.here hx rfl (hb hby dcp3_3) rfl rfl rfl (XT.aa_ne_f rfl) ?_
    refine XS.iloadN X4.here hx rfl (hb hby dcp3_6) rfl ?_
    exact k)
  obtain ⟨T6, h6, k6, X6, e6, E6, A6, O6, st6⟩ := newR X4 hx hZ hown (own_h hw 238 rfl) (own_h hw 214 rfl) e4 (g := (mkF m 7 #[own_r b1, own_i n, own_r mr, .unset] [(.int n)])) rfl (hb hby dcp3_7) rfl hn3.1 (cap := 3) hn3.2.1 (by decide) (by decide) (by decide)
  obtain ⟨b6, g6⟩ : ∃ z, z = h0.size := ⟨_, rfl⟩
  rw [← g6] at A6 st6
  have ne_b1_b6 : b1 ≠ b6 := Nat.ne_of_lt (Nat.lt_of_lt_of_eq V1.lt g6.symm)
  have g_b6 : n0 ≤ b6 := Nat.le_trans Z0 (Nat.le_of_eq g6.symm)
  have sz_b6 : h0.size ≤ b6 := Nat.le_trans K2.1 (Nat.le_of_eq g6.symm)
  have Z6 : n0 ≤ h6.size := Nat.le_trans Z0 E6.1
  have f7_0 := V1.ext E6
  have K8 := K2.ext E6
  have V6 := Arv.new A6 hn3.1
  obtain ⟨cl9, Ar9, kc9, S9, M9, H9, G9⟩ := id f7_0
  have pre10 : own_G p e below T6 s₁ _ _ := fun t k => pre5 t (by
    refine st6 _ ?_
    refine XS.goto X6.here hx rfl (pc0 := 10) (pc' := 24) rfl (hb hby dcp3_10) (by decide) (by decide) ?_
    refine XS.astoreN X6.here hx rfl (hb hby dcp3_24) rfl rfl (l' := #[own_r b1, own_i n, own_r mr, own_r b6]) rfl ?_
    refine XS.aloadN X6.here hx rfl (hb hby dcp3_25) rfl rfl ?_
    refine XS.iconst X6.here hx rfl (hb hby dcp3_26) ?_
    refine XS.aloadN X6.here hx rfl (hb hby dcp3_27) rfl rfl ?_
    refine XS.iconst X6.here hx rfl (hb hby dcp3_28) ?_
    refine XS.aloadN X6.here hx rfl (hb hby dcp3_29) rfl rfl ?_
    refine X6.arraylength hx (cell := cl9) (by rw [e6]; exact Ar9.1) (State.isArrayOf_alike hZ.alike Ar9.2.1) (g := (mkF m 30 #[own_r b1, own_i n, own_r mr, own_r b6] [(.ref b1), (.int (0 : Int32)), (.ref b6), (.int (0 : Int32)), (.ref b1)])) rfl (rest := [(.int (0 : Int32)), (.ref b6), (.int (0 : Int32)), (.ref b1)]) rfl (hb hby dcp3_30) _ ?_
    rw [len_of S9 M9]
    refine XS.iloadN X6.here hx rfl (hb hby dcp3_31) rfl ?_
    exact k)
  obtain ⟨_, _, ⟨T11, L11, kk11, nn11⟩, -, X11, ⟨Lc11, hQ11, l11, y11, z11⟩, st11⟩ := Jvm.LawKit.callS X6 hx (y := own_y29) hown (mvT hZ (own_h hw 239 rfl)) (mvT hZ (own_h hw 240 rfl)) (mvT hZ (own_h hw 211 rfl)) (mvT hZ (own_h hw 241 rfl)) (by decide) (backOf (W := 4) (rm_mn l Z a0 hw [] (10 : Int32) n h6 n0 Z6 ) hZ (own_h hw 241 rfl) (own_h hw 211 rfl) (by decide) (by decide)) (g := (mkF m 32 #[own_r b1, own_i n, own_r mr, own_r b6] [(.int n), (.int (10 : Int32)), (.int (0 : Int32)), (.ref b6), (.int (0 : Int32)), (.ref b1)])) rfl (by rw [hml]; rfl) (argsL := [(.int (10 : Int32)), (.int n)]) (rest := [(.int (0 : Int32)), (.ref b6), (.int (0 : Int32)), (.ref b1)]) (lenOf pd__II_I rfl) rfl (by show 2 * 0 + _ ≤ _; exact Nat.le_of_eq rfl) (hb hby dcp3_32) (fun _ _ => ⟨rfl, e6, (by decide : 1 + 0 ≤ _), (by decide : 3 + 0 ≤ _)⟩)
  dsimp only [Pt.U, Pt.locs, Pt.cells, Pt.slots] at X11 l11 y11 z11 st11 hQ11
  subst l11 y11 z11
  obtain ⟨rfl, N11q, eq11⟩ := hQ11
  have N11 := Fr.app N0 N11q
  have hmi := own_mi hn3.2.2
  have pre12 : own_G p e below T11 s₁ _ _ := fun t k => pre10 t (by
    refine st11 _ ?_
    show Steps p.tables e below (T11.setTop (mkF m 35 #[own_r b1, own_i n, own_r mr, own_r b6] [(.int (own_min (10 : Int32) n)), (.int (0 : Int32)), (.ref b6), (.int (0 : Int32)), (.ref b1)])) _
    rw [hmi]
    exact k)
  obtain ⟨clq, Arq, kcq, -⟩ := id V6
  have hst : ∀ x ∈ xs, Sto Z h6 b6 (.ref x) := fun x hx => Sto.ofV Arq kcq O6 (Ins.of_exa ((HX x hx).keep K8) (own_h hw 215 rfl))
  obtain ⟨T13, h13, X13, e13, Ka13, Va13, st13⟩ := own_acopyR X11 hx hZ hown (own_acw hZ hw) eq11 f7_0 V6 (by rw [List.length_map]; exact hn) (by rw [List.length_map]; exact Nat.le_trans h3 (by decide)) (by rw [List.length_map]; omega) (own_stos hst) (g := (mkF m 35 #[own_r b1, own_i n, own_r mr, own_r b6] [(.int n), (.int (0 : Int32)), (.ref b6), (.int (0 : Int32)), (.ref b1)])) rfl (by rw [hml]; rfl) rfl (hb hby dcp3_35) (W := 0) (by show 2 * 0 + _ ≤ _; exact Nat.le_of_eq rfl) (by decide) (by decide)
  have N13 : Fr n0 (_ ++ copyLocs b6 0 _) := Fr.app N11 (own_cl (vs := (xs.map Value.ref)) g_b6)
  have K13 := K8.trans Ka13 (fun x hx => by cases List.mem_singleton.mp hx; exact (Or.inr sz_b6))
  have pre14 : own_G p e below T13 s₁ _ _ := fun t k => pre12 t (by
    refine st13 _ ?_
    refine XS.aloadN X13.here hx rfl (hb hby dcp3_38) rfl rfl ?_
    exact k)
  obtain ⟨fs, hr, hrun, hended, hW, hsame⟩ := X13.leave (v := some (.ref b6)) (fun h => by rw [Bd.returns] at h; cases h)
  refine ⟨_, _, pre14 _ ?_, hrun, hended, _, _, rfl, ?_, ⟨_, rfl⟩, hW, hsame.mono (by decide) (by decide)⟩
  · show Steps p.tables e below (T13.setTop (mkF m 39 #[own_r b1, own_i n, own_r mr, own_r b6] [(.ref b6)])) _
    jvm_step X13.here [X13.here.top, hx, (hb hby dcp3_39), X13.method', Bd.returns, Value.isRef, FieldType.isReference]
    first | (intro acts; rw [hr _ acts rfl rfl rfl]) | rw [hr _ _ rfl rfl rfl]
    exact Steps.refl _
  · show Q_cp3 Z b1 mr n k1 xs h0 n0 _ T13.heap _
    rw [e13]
    exact ⟨b6, k6, rfl, N13, K13, g_b6, sz_b6, Va13⟩
theorem dcp2_0 : decode own_k38 0 = .ok (.aload_n 0, 1) := by decide +kernel
theorem dcp2_1 : decode own_k38 1 = .ok (.iload_n 1, 1) := by decide +kernel
theorem dcp2_2 : decode own_k38 2 = .ok (.aload_n 0, 1) := by decide +kernel
theorem dcp2_3 : decode own_k38 3 = .ok (.invokevirtual 86, 3) := by decide +kernel
theorem dcp2_6 : decode own_k38 6 = .ok (.invokestatic 300, 3) := by decide +kernel
theorem dcp2_9 : decode own_k38 9 = .ok (.areturn, 1) := by decide +kernel
theorem pd___Ljava_lang_Object_ILjava_lang_Class___Ljava_lang_Object_ : parseMethodDescriptor "([Ljava/lang/Object;ILjava/lang/Class;)[Ljava/lang/Object;" = some ⟨[(.array (.object "java/lang/Object")), .int, (.object "java/lang/Class")], some (.array (.object "java/lang/Object"))⟩ := by decide +kernel
theorem ef_cp2 (m : MethodId) (b1 : Addr) (n : Int32) : entryFrame m #[(.ref b1), (.int n)] 2 = (mkF m 0 #[own_r b1, own_i n] []) := by first | (simp [entryFrame, mkF, argsToLocals, Value.category]; done) | rfl
def Q_cp2 (Z : State) (b1 mr : Addr) (n : Int32) (k1 : ClassId) (xs : List Addr) (h0 : Heap) (n0 : Nat) (v : Option Value) (h : Heap) (L : List Loc) : Prop := ∃ (br : Addr) (kr : ClassId), v = some (.ref br) ∧ Fr n0 L ∧ Keep h0 h [] ∧ n0 ≤ br ∧ h0.size ≤ br ∧ Arv Z h br kr (.object "java/lang/Object") n (xs.map Value.ref) .null
theorem rm_cp2 (l : Launch) (Z : State) (a0 : Array Value) (hw : own_W a0 Z) (ws : List Jvm.Cond) (b1 mr : Addr) (n : Int32) (k1 : ClassId) (xs : List Addr) (h0 : Heap) (n0 : Nat) (Z0 : n0 ≤ h0.size) (M1 : Mir Z "[Ljava/lang/Object;" mr) (V1 : Arv Z h0 b1 k1 (.object "java/lang/Object") (10 : Int32) (xs.map Value.ref) .null) (EB : Exa Z h0 b1 "[Ljava/lang/Object;") (HX : ∀ x ∈ xs, Exa Z h0 x "com/example/tributary/tributary/merge/Tree") (hn : n = Int32.ofNat xs.length) (h3 : xs.length ≤ 3)  :
    own_M l Z h0 ws own_y48 jdk_65_method_119_code 2 (some (.array (.object "java/lang/Object"))) (⟨2, 1, 3, 56⟩ : Room) #[(.ref b1), (.int n)] (Q_cp2 Z b1 mr n k1 xs h0 n0) := by
  refine MetFree.of_bodySF (plainFor_of_name pn_cp3) hisR ?_
  intro p e s m args below meth c s₁ Bd hml0 hP hK
  obtain ⟨rfl, hZ, hh⟩ := hP
  have hx := Bd.exec
  have hby := Bd.bytes
  have hml : c.maxLocals = 2 := hml0
  have hown : s.vm.findClass "java/util/Arrays" = some m.cls := findClass_of_methodNamed Bd.named
  have hnm := (name_of_methodNamed Bd.named Bd.method).1
  have X0 : Stand p l e (⟨2, 1, 3, 56⟩ : Room) s m #[(.ref b1), (.int n)] below meth c s₁ [] 0 0 := Stand.of_body Bd
  have e0 : s₁.heap = h0 := by rw [← hh, Bd.state]; rfl
  have N0 := Fr.nil n0
  have pre0 : ∀ t, Steps p.tables e below (s₁.setTop (mkF m 0 #[own_r b1, own_i n] [])) t → Steps p.tables e below (s₁.setTop (entryFrame m #[(.ref b1), (.int n)] 2)) t := fun t k => castTop (ef_cp2 m b1 n) k
  have K2 : Keep h0 h0 [] := Keep.refl h0 []
  have pre3 : own_G p e below s₁ s₁ _ _ := fun t k => pre0 t (by
    refine XS.aloadN X0.here hx rfl (hb hby dcp2_0) rfl rfl ?_
    refine XS.iloadN X0.here hx rfl (hb hby dcp2_1) rfl ?_
    refine XS.aloadN X0.here hx rfl (hb hby dcp2_2) rfl rfl ?_
    exact k)
  obtain ⟨T4, X4, e4, st4⟩ := gcls X0 hx hZ hown (own_h hw 228 rfl) (own_h hw 229 rfl) (own_h hw 68 rfl) (own_h hw 231 rfl) (own_h hw 230 rfl) (own_h hw 232 rfl) e0 EB M1 (g := (mkF m 3 #[own_r b1, own_i n] [(.ref b1), (.int n), (.ref b1)])) rfl (by rw [hml]; rfl) rfl (hb hby dcp2_3) (by decide) (W := 2) (by show 2 * 0 + _ ≤ _; exact Nat.le_of_eq rfl) (by decide)
  have pre5 : own_G p e below T4 s₁ _ _ := fun t k => pre3 t (by
    refine st4 _ ?_
    exact k)
  obtain ⟨_, _, ⟨T6, L6, kk6, nn6⟩, -, X6, ⟨Lc6, hQ6, l6, y6, z6⟩, st6⟩ := Jvm.LawKit.callS X4 hx (y := own_y47) hown (mvT hZ (own_h hw 234 rfl)) (mvT hZ (own_h hw 235 rfl)) (mvT hZ (own_h hw 226 rfl)) (mvT hZ (own_h hw 236 rfl)) (by decide) (backOf (W := 0) (rm_cp3 l Z a0 hw [] b1 mr n k1 xs h0 n0 Z0 M1 V1 EB HX hn h3) hZ (own_h hw 236 rfl) (own_h hw 226 rfl) (by decide) (by decide)) (g := (mkF m 6 #[own_r b1, own_i n] [(.ref mr), (.int n), (.ref b1)])) rfl (by rw [hml]; rfl) (argsL := [(.ref b1), (.int n), (.ref mr)]) (rest := []) (lenOf pd___Ljava_lang_Object_ILjava_lang_Class___Ljava_lang_Object_ rfl) rfl (by show 2 * 0 + _ ≤ _; exact Nat.le_of_eq rfl) (hb hby dcp2_6) (fun _ _ => ⟨rfl, e4, (by decide : 0 + 1 ≤ _), (by decide : 0 + 3 ≤ _)⟩)
  dsimp only [Pt.U, Pt.locs, Pt.cells, Pt.slots] at X6 l6 y6 z6 st6 hQ6
  subst l6 y6 z6
  obtain ⟨br6, kr6, rfl, N6q, Kc6, g_br6, sr6, Vr6⟩ := hQ6
  have N6 := Fr.app N0 N6q
  have f7_0 := EB.keep Kc6
  have K8 := K2.trans Kc6 (fun x hx => by cases hx)
  have Z6 : n0 ≤ T6.heap.size := Nat.le_trans Z0 Kc6.1
  have e6 : T6.heap = T6.heap := rfl
  have pre9 : own_G p e below T6 s₁ _ _ := fun t k => pre5 t (by
    refine st6 _ ?_
    exact k)
  obtain ⟨fs, hr, hrun, hended, hW, hsame⟩ := X6.leave (v := some (.ref br6)) (fun h => by rw [Bd.returns] at h; cases h)
  refine ⟨_, _, pre9 _ ?_, hrun, hended, _, _, rfl, ?_, ⟨_, rfl⟩, hW, hsame.mono (by decide) (by decide)⟩
  · show Steps p.tables e below (T6.setTop (mkF m 9 #[own_r b1, own_i n] [(.ref br6)])) _
    jvm_step X6.here [X6.here.top, hx, (hb hby dcp2_9), X6.method', Bd.returns, Value.isRef, FieldType.isReference]
    first | (intro acts; rw [hr _ acts rfl rfl rfl]) | rw [hr _ _ rfl rfl rfl]
    exact Steps.refl _
  · show Q_cp2 Z b1 mr n k1 xs h0 n0 _ T6.heap _
    skip
    exact ⟨br6, kr6, rfl, N6, K8, g_br6, sr6, Vr6⟩
theorem dtar_0 : decode own_k39 0 = .ok (.aload_n 0, 1) := by decide +kernel
theorem dtar_1 : decode own_k39 1 = .ok (.getfield 9, 3) := by decide +kernel
theorem dtar_4 : decode own_k39 4 = .ok (.aload_n 0, 1) := by decide +kernel
theorem dtar_5 : decode own_k39 5 = .ok (.getfield 48, 3) := by decide +kernel
theorem dtar_8 : decode own_k39 8 = .ok (.invokestatic 66, 3) := by decide +kernel
theorem dtar_11 : decode own_k39 11 = .ok (.areturn, 1) := by decide +kernel
theorem pd___Ljava_lang_Object_I__Ljava_lang_Object_ : parseMethodDescriptor "([Ljava/lang/Object;I)[Ljava/lang/Object;" = some ⟨[(.array (.object "java/lang/Object")), .int], some (.array (.object "java/lang/Object"))⟩ := by decide +kernel
theorem ef_tar (m : MethodId) (a1 : Addr) : entryFrame m #[(.ref a1)] 1 = (mkF m 0 #[own_r a1] []) := by first | (simp [entryFrame, mkF, argsToLocals, Value.category]; done) | rfl
def Q_tar (Z : State) (a1 : Addr) (b1 mr : Addr) (n : Int32) (k1 : ClassId) (xs : List Addr) (h0 : Heap) (n0 : Nat) (v : Option Value) (h : Heap) (L : List Loc) : Prop := ∃ (br : Addr) (kr : ClassId), v = some (.ref br) ∧ Fr n0 L ∧ Keep h0 h [] ∧ n0 ≤ br ∧ h0.size ≤ br ∧ Arv Z h br kr (.object "java/lang/Object") n (xs.map Value.ref) .null
theorem rm_tar (l : Launch) (Z : State) (a0 : Array Value) (hw : own_W a0 Z) (ws : List Jvm.Cond) (a1 : Addr) (b1 mr : Addr) (n : Int32) (k1 : ClassId) (xs : List Addr) (h0 : Heap) (n0 : Nat) (Z0 : n0 ≤ h0.size) (F2 : Fld Z h0 a1 "java/util/ArrayList" "elementData" "[Ljava/lang/Object;" (.ref b1)) (F3 : Fld Z h0 a1 "java/util/ArrayList" "size" "I" (.int n)) (M1 : Mir Z "[Ljava/lang/Object;" mr) (V1 : Arv Z h0 b1 k1 (.object "java/lang/Object") (10 : Int32) (xs.map Value.ref) .null) (EB : Exa Z h0 b1 "[Ljava/lang/Object;") (HX : ∀ x ∈ xs, Exa Z h0 x "com/example/tributary/tributary/merge/Tree") (hn : n = Int32.ofNat xs.length) (h3 : xs.length ≤ 3)  :
    own_M l Z h0 ws own_y49 jdk_38_method_16_code 1 (some (.array (.object "java/lang/Object"))) (⟨3, 1, 3, 70⟩ : Room) #[(.ref a1)] (Q_tar Z a1 b1 mr n k1 xs h0 n0) := by
  refine MetFree.of_bodySF (plainFor_of_name pn_ali) hisR ?_
  intro p e s m args below meth c s₁ Bd hml0 hP hK
  obtain ⟨rfl, hZ, hh⟩ := hP
  have hx := Bd.exec
  have hby := Bd.bytes
  have hml : c.maxLocals = 1 := hml0
  have hown : s.vm.findClass "java/util/ArrayList" = some m.cls := findClass_of_methodNamed Bd.named
  have hnm := (name_of_methodNamed Bd.named Bd.method).1
  have X0 : Stand p l e (⟨3, 1, 3, 70⟩ : Room) s m #[(.ref a1)] below meth c s₁ [] 0 0 := Stand.of_body Bd
  have e0 : s₁.heap = h0 := by rw [← hh, Bd.state]; rfl
  have N0 := Fr.nil n0
  have pre0 : ∀ t, Steps p.tables e below (s₁.setTop (mkF m 0 #[own_r a1] [])) t → Steps p.tables e below (s₁.setTop (entryFrame m #[(.ref a1)] 1)) t := fun t k => castTop (ef_tar m a1) k
  have K2 : Keep h0 h0 [] := Keep.refl h0 []
  have pre3 : own_G p e below s₁ s₁ _ _ := fun t k => pre0 t (by
    refine XS.aloadN X0.here hx rfl (hb hby dtar_0) rfl rfl ?_
    exact k)
  obtain ⟨T4, X4, e4, st4⟩ := getF X0 hx hZ hown (host := "") (Or.inl (own_h hw 25 rfl)) Via.refl e0 F2 (g := (mkF m 1 #[own_r a1] [(.ref a1)])) rfl rfl (hb hby dtar_1)
  have pre5 : own_G p e below T4 s₁ _ _ := fun t k => pre3 t (by
    refine st4 _ ?_
    refine XS.aloadN X4.here hx rfl (hb hby dtar_4) rfl rfl ?_
    exact k)
  obtain ⟨T6, X6, e6, st6⟩ := getF X4 hx hZ hown (host := "") (Or.inl (own_h hw 79 rfl)) Via.refl e4 F3 (g := (mkF m 5 #[own_r a1] [(.ref a1), (.ref b1)])) rfl rfl (hb hby dtar_5)
  have pre7 : own_G p e below T6 s₁ _ _ := fun t k => pre5 t (by
    refine st6 _ ?_
    exact k)
  obtain ⟨_, _, ⟨T8, L8, kk8, nn8⟩, -, X8, ⟨Lc8, hQ8, l8, y8, z8⟩, st8⟩ := Jvm.LawKit.callS X6 hx (y := own_y48) hown (mvT hZ (own_h hw 224 rfl)) (mvT hZ (own_h hw 225 rfl)) (mvT hZ (own_h hw 226 rfl)) (mvT hZ (own_h hw 227 rfl)) (by decide) (backOf (W := 0) (rm_cp2 l Z a0 hw [] b1 mr n k1 xs h0 n0 Z0 M1 V1 EB HX hn h3) hZ (own_h hw 227 rfl) (own_h hw 226 rfl) (by decide) (by decide)) (g := (mkF m 8 #[own_r a1] [(.int n), (.ref b1)])) rfl (by rw [hml]; rfl) (argsL := [(.ref b1), (.int n)]) (rest := []) (lenOf pd___Ljava_lang_Object_I__Ljava_lang_Object_ rfl) rfl (by show 2 * 0 + _ ≤ _; exact Nat.le_of_eq rfl) (hb hby dtar_8) (fun _ _ => ⟨rfl, e6, (by decide : 0 + 1 ≤ _), (by decide : 0 + 3 ≤ _)⟩)
  dsimp only [Pt.U, Pt.locs, Pt.cells, Pt.slots] at X8 l8 y8 z8 st8 hQ8
  subst l8 y8 z8
  obtain ⟨br8, kr8, rfl, N8q, Kc8, g_br8, sr8, Vr8⟩ := hQ8
  have N8 := Fr.app N0 N8q
  have K10 := K2.trans Kc8 (fun x hx => by cases hx)
  have Z8 : n0 ≤ T8.heap.size := Nat.le_trans Z0 Kc8.1
  have e8 : T8.heap = T8.heap := rfl
  have pre11 : own_G p e below T8 s₁ _ _ := fun t k => pre7 t (by
    refine st8 _ ?_
    exact k)
  obtain ⟨fs, hr, hrun, hended, hW, hsame⟩ := X8.leave (v := some (.ref br8)) (fun h => by rw [Bd.returns] at h; cases h)
  refine ⟨_, _, pre11 _ ?_, hrun, hended, _, _, rfl, ?_, ⟨_, rfl⟩, hW, hsame.mono (by decide) (by decide)⟩
  · show Steps p.tables e below (T8.setTop (mkF m 11 #[own_r a1] [(.ref br8)])) _
    jvm_step X8.here [X8.here.top, hx, (hb hby dtar_11), X8.method', Bd.returns, Value.isRef, FieldType.isReference]
    first | (intro acts; rw [hr _ acts rfl rfl rfl]) | rw [hr _ _ rfl rfl rfl]
    exact Steps.refl _
  · show Q_tar Z a1 b1 mr n k1 xs h0 n0 _ T8.heap _
    skip
    exact ⟨br8, kr8, rfl, N8, K10, g_br8, sr8, Vr8⟩
def own_Kids (Z : State) (h : Heap) (em : Addr) (N : Nat) (l : Addr) (xs : List Addr) : Prop := l < N ∧
  ((xs = [] ∧ Exa Z h l "java/util/ImmutableCollections$ListN" ∧ ∃ b k, b < N ∧ Fld Z h l "java/util/ImmutableCollections$ListN" "elements" "[Ljava/lang/Object;" (.ref b) ∧ Arv Z h b k (.object "java/lang/Object") (0 : Int32) [] .null) ∨
   (∃ x, xs = [x] ∧ Exa Z h l "java/util/ImmutableCollections$List12" ∧ Fld Z h l "java/util/ImmutableCollections$List12" "e0" "Ljava/lang/Object;" (.ref x) ∧ Fld Z h l "java/util/ImmutableCollections$List12" "e1" "Ljava/lang/Object;" (.ref em)) ∨
   (∃ x y, xs = [x, y] ∧ Exa Z h l "java/util/ImmutableCollections$List12" ∧ Fld Z h l "java/util/ImmutableCollections$List12" "e0" "Ljava/lang/Object;" (.ref x) ∧ Fld Z h l "java/util/ImmutableCollections$List12" "e1" "Ljava/lang/Object;" (.ref y) ∧ ¬ y = em) ∨
   (∃ x y z b k, xs = [x, y, z] ∧ Exa Z h l "java/util/ImmutableCollections$ListN" ∧ b < N ∧ Fld Z h l "java/util/ImmutableCollections$ListN" "elements" "[Ljava/lang/Object;" (.ref b) ∧ Arv Z h b k (.object "java/lang/Object") (3 : Int32) [.ref x, .ref y, .ref z] .null))
def own_AL (Z : State) (h : Heap) (de a : Addr) (xs : List Addr) : Prop := Exa Z h a "java/util/ArrayList" ∧ (∃ m, Fld Z h a "java/util/AbstractList" "modCount" "I" (.int m)) ∧ Fld Z h a "java/util/ArrayList" "size" "I" (.int (Int32.ofNat xs.length)) ∧
  ((xs = [] ∧ Fld Z h a "java/util/ArrayList" "elementData" "[Ljava/lang/Object;" (.ref de)) ∨ (xs ≠ [] ∧ ∃ b k, a < b ∧ Fld Z h a "java/util/ArrayList" "elementData" "[Ljava/lang/Object;" (.ref b) ∧ Arv Z h b k (.object "java/lang/Object") (10 : Int32) (xs.map Value.ref) .null ∧ Ovr Z k "java/lang/Object" ∧ Exa Z h b "[Ljava/lang/Object;"))
theorem own_Kids_keep {Z : State} {h h' : Heap} {em l : Addr} {N : Nat} {xs : List Addr} {ws : List Addr} {a0 : Array Value} (w : (Jvm.Cond.instantiable "com/example/tributary/tributary/merge/Tree" 18).before a0 Z = true) (F : own_Kids Z h em N l xs) (K : Keep h h' ws) (q : ∀ y ∈ ws, N ≤ y ∨ Exa Z h y "com/example/tributary/tributary/merge/Tree") : own_Kids Z h' em N l xs := by
  have ne1 : ∀ {C : String}, Exa Z h l C → C ≠ "com/example/tributary/tributary/merge/Tree" → l ∉ ws := fun E hC hm => by
    rcases q l hm with h1 | h1
    · exact absurd F.1 (Nat.not_lt.mpr h1)
    · exact E.ne h1 hC rfl
  have ne2 : ∀ {b : Addr} {k : ClassId} {z : Int32} {vs : List Value}, b < N → Arv Z h b k (.object "java/lang/Object") z vs .null → b ∉ ws := fun hb V hm => by
    rcases q _ hm with h1 | h1
    · exact absurd hb (Nat.not_lt.mpr h1)
    · exact h1.neArv V w rfl
  obtain ⟨hl, ⟨e, E, b, k, hb, G, V⟩ | ⟨x, e, E, G, H⟩ | ⟨x, y, e, E, G, H, n⟩ | ⟨x, y, z, b, k, e, E, hb, G, V⟩⟩ := F
  · exact ⟨hl, Or.inl ⟨e, E.keep K, b, k, hb, G.keep K (ne1 E (by decide)), V.keep K (ne2 hb V)⟩⟩
  · exact ⟨hl, Or.inr (Or.inl ⟨x, e, E.keep K, G.keep K (ne1 E (by decide)), H.keep K (ne1 E (by decide))⟩)⟩
  · exact ⟨hl, Or.inr (Or.inr (Or.inl ⟨x, y, e, E.keep K, G.keep K (ne1 E (by decide)), H.keep K (ne1 E (by decide)), n⟩))⟩
  · exact ⟨hl, Or.inr (Or.inr (Or.inr ⟨x, y, z, b, k, e, E.keep K, hb, G.keep K (ne1 E (by decide)), V.keep K (ne2 hb V)⟩))⟩
theorem own_Kids_le {Z : State} {h : Heap} {em l : Addr} {N N' : Nat} {xs : List Addr} (F : own_Kids Z h em N l xs) (q : N ≤ N') : own_Kids Z h em N' l xs := by
  obtain ⟨hl, ⟨e, E, b, k, hb, r⟩ | r | r | ⟨x, y, z, b, k, e, E, hb, r⟩⟩ := F
  · exact ⟨Nat.lt_of_lt_of_le hl q, Or.inl ⟨e, E, b, k, Nat.lt_of_lt_of_le hb q, r⟩⟩
  · exact ⟨Nat.lt_of_lt_of_le hl q, Or.inr (Or.inl r)⟩
  · exact ⟨Nat.lt_of_lt_of_le hl q, Or.inr (Or.inr (Or.inl r))⟩
  · exact ⟨Nat.lt_of_lt_of_le hl q, Or.inr (Or.inr (Or.inr ⟨x, y, z, b, k, e, E, Nat.lt_of_lt_of_le hb q, r⟩))⟩
theorem own_Kids_re {Z : State} {h h' : Heap} {em l : Addr} {xs : List Addr} {a0 : Array Value} (w : (Jvm.Cond.instantiable "com/example/tributary/tributary/merge/Tree" 18).before a0 Z = true) (F : own_Kids Z h em h.size l xs) (K : Keep h h' []) : own_Kids Z h' em h'.size l xs := own_Kids_le (own_Kids_keep w F K (fun y hy => by cases hy)) K.1
theorem own_AL_keep {Z : State} {h h' : Heap} {de a : Addr} {xs : List Addr} (F : own_AL Z h de a xs) (K : Keep h h' []) : own_AL Z h' de a xs := by
  obtain ⟨E, ⟨m, M⟩, S, ⟨e, D⟩ | ⟨e, b, k, lt, D, V, O, B⟩⟩ := F
  · exact ⟨E.keep K, ⟨m, M.keep K (by simp)⟩, S.keep K (by simp), Or.inl ⟨e, D.keep K (by simp)⟩⟩
  · exact ⟨E.keep K, ⟨m, M.keep K (by simp)⟩, S.keep K (by simp), Or.inr ⟨e, b, k, lt, D.keep K (by simp), V.keep K (by simp), O, B.keep K⟩⟩
theorem own_c3 {xs : List Addr} (h0 : xs ≠ []) (h3 : xs.length ≤ 3) : (∃ x, xs = [x]) ∨ (∃ x y, xs = [x, y]) ∨ ∃ x y z, xs = [x, y, z] := by
  match xs, h0, h3 with
  | [x], _, _ => exact Or.inl ⟨x, rfl⟩
  | [x, y], _, _ => exact Or.inr (Or.inl ⟨x, y, rfl⟩)
  | [x, y, z], _, _ => exact Or.inr (Or.inr ⟨x, y, z, rfl⟩)
  | _ :: _ :: _ :: _ :: t, _, h => simp at h
theorem own_em0 {xs : List Addr} (h0 : xs ≠ []) (h3 : xs.length ≤ 3) : own_em (Int32.ofNat xs.length) = 0 := by
  rcases own_c3 h0 h3 with ⟨x, rfl⟩ | ⟨x, y, rfl⟩ | ⟨x, y, z, rfl⟩
  · exact (by decide : own_em (Int32.ofNat 1) = 0)
  · exact (by decide : own_em (Int32.ofNat 2) = 0)
  · exact (by decide : own_em (Int32.ofNat 3) = 0)
theorem dlfa_0 : decode own_k8 0 = .ok (.aload_n 0, 1) := by decide +kernel
theorem dlfa_1 : decode own_k8 1 = .ok (.arraylength, 1) := by decide +kernel
theorem dlfa_2 : decode own_k8 2 = .ok (.anewarray 2, 3) := by decide +kernel
theorem dlfa_5 : decode own_k8 5 = .ok (.astore_n 1, 1) := by decide +kernel
theorem dlfa_6 : decode own_k8 6 = .ok (.iconst 0, 1) := by decide +kernel
theorem dlfa_7 : decode own_k8 7 = .ok (.istore_n 2, 1) := by decide +kernel
theorem dlfa_8 : decode own_k8 8 = .ok (.iload_n 2, 1) := by decide +kernel
theorem dlfa_9 : decode own_k8 9 = .ok (.aload_n 0, 1) := by decide +kernel
theorem dlfa_10 : decode own_k8 10 = .ok (.arraylength, 1) := by decide +kernel
theorem dlfa_11 : decode own_k8 11 = .ok (.if_icmp .ge 18, 3) := by decide +kernel
theorem dlfa_14 : decode own_k8 14 = .ok (.aload_n 1, 1) := by decide +kernel
theorem dlfa_15 : decode own_k8 15 = .ok (.iload_n 2, 1) := by decide +kernel
theorem dlfa_16 : decode own_k8 16 = .ok (.aload_n 0, 1) := by decide +kernel
theorem dlfa_17 : decode own_k8 17 = .ok (.iload_n 2, 1) := by decide +kernel
theorem dlfa_18 : decode own_k8 18 = .ok (.aaload, 1) := by decide +kernel
theorem dlfa_19 : decode own_k8 19 = .ok (.invokestatic 37, 3) := by decide +kernel
theorem dlfa_22 : decode own_k8 22 = .ok (.aastore, 1) := by decide +kernel
theorem dlfa_23 : decode own_k8 23 = .ok (.iinc 2 1, 3) := by decide +kernel
theorem dlfa_26 : decode own_k8 26 = .ok (.goto (-18), 3) := by decide +kernel
theorem dlfa_29 : decode own_k8 29 = .ok (.new 12, 3) := by decide +kernel
theorem dlfa_32 : decode own_k8 32 = .ok (.dup, 1) := by decide +kernel
theorem dlfa_33 : decode own_k8 33 = .ok (.aload_n 1, 1) := by decide +kernel
theorem dlfa_34 : decode own_k8 34 = .ok (.iconst 0, 1) := by decide +kernel
theorem dlfa_35 : decode own_k8 35 = .ok (.invokespecial 43, 3) := by decide +kernel
theorem dlfa_38 : decode own_k8 38 = .ok (.areturn, 1) := by decide +kernel
theorem pd___Ljava_lang_Object_Z_V : parseMethodDescriptor "([Ljava/lang/Object;Z)V" = some ⟨[(.array (.object "java/lang/Object")), .boolean], none⟩ := by decide +kernel
theorem pn_lfa : plainName "java/util/ImmutableCollections" = true := by first | (simp [plainName, overriddenIn]; done) | decide +kernel
theorem ef_lfa (m : MethodId) (b1 : Addr) : entryFrame m #[(.ref b1)] 3 = (mkF m 0 #[own_r b1, .unset, .unset] []) := by first | (simp [entryFrame, mkF, argsToLocals, Value.category]; done) | rfl
def Q_lfa (Z : State) (b1 x1 y1 z1 em : Addr) (k1 : ClassId) (h0 : Heap) (n0 : Nat) (v : Option Value) (h : Heap) (L : List Loc) : Prop := ∃ lr : Addr, v = some (.ref lr) ∧ Fr n0 L ∧ Keep h0 h [] ∧ own_Kids Z h em h.size lr [x1, y1, z1]
theorem rm_lfa (l : Launch) (Z : State) (a0 : Array Value) (hw : own_W a0 Z) (ws : List Jvm.Cond) (b1 x1 y1 z1 em : Addr) (k1 : ClassId) (h0 : Heap) (n0 : Nat) (Z0 : n0 ≤ h0.size) (V1 : Arv Z h0 b1 k1 (.object "java/lang/Object") (3 : Int32) [.ref x1, .ref y1, .ref z1] .null) (Ex : Exa Z h0 x1 "com/example/tributary/tributary/merge/Tree") (Ey : Exa Z h0 y1 "com/example/tributary/tributary/merge/Tree") (Ez : Exa Z h0 z1 "com/example/tributary/tributary/merge/Tree") :
    own_M l Z h0 ws own_y50 jdk_56_method_4_code 3 (some (.object "java/util/List")) (⟨5, 2, 5, 63⟩ : Room) #[(.ref b1)] (Q_lfa Z b1 x1 y1 z1 em k1 h0 n0) := by
  refine MetFree.of_bodySF (plainFor_of_name pn_lfa) hisR ?_
  intro p e s m args below meth c s₁ Bd hml0 hP hK
  obtain ⟨rfl, hZ, hh⟩ := hP
  have hx := Bd.exec
  have hby := Bd.bytes
  have hml : c.maxLocals = 3 := hml0
  have hown : s.vm.findClass "java/util/ImmutableCollections" = some m.cls := findClass_of_methodNamed Bd.named
  have hnm := (name_of_methodNamed Bd.named Bd.method).1
  have X0 : Stand p l e (⟨5, 2, 5, 63⟩ : Room) s m #[(.ref b1)] below meth c s₁ [] 0 0 := Stand.of_body Bd
  have e0 : s₁.heap = h0 := by rw [← hh, Bd.state]; rfl
  have N0 := Fr.nil n0
  have pre0 : ∀ t, Steps p.tables e below (s₁.setTop (mkF m 0 #[own_r b1, .unset, .unset] [])) t → Steps p.tables e below (s₁.setTop (entryFrame m #[(.ref b1)] 3)) t := fun t k => castTop (ef_lfa m b1) k
  have K2 : Keep h0 h0 [] := Keep.refl h0 []
  obtain ⟨cl3, Ar3, kc3, S3, M3, H3, G3⟩ := id V1
  have pre4 : own_G p e below s₁ s₁ _ _ := fun t k => pre0 t (by
    refine XS.aloadN X0.here hx rfl (hb hby dlfa_0) rfl rfl ?_
    refine X0.arraylength hx (cell := cl3) (by rw [e0]; exact Ar3.1) (State.isArrayOf_alike hZ.alike Ar3.2.1) (g := (mkF m 1 #[own_r b1, .unset, .unset] [(.ref b1)])) rfl (rest := []) rfl (hb hby dlfa_1) _ ?_
    rw [len_of S3 M3]
    exact k)
  obtain ⟨T5, h5, k5, X5, e5, E5, A5, O5, st5⟩ := newR X0 hx hZ hown (own_h hw 252 rfl) (own_h hw 214 rfl) e0 (g := (mkF m 2 #[own_r b1, .unset, .unset] [(.int (3 : Int32))])) rfl (hb hby dlfa_2) rfl (by decide) (cap := 3) (by decide) (by decide) (by decide) (by decide)
  obtain ⟨b5, g5⟩ : ∃ z, z = h0.size := ⟨_, rfl⟩
  rw [← g5] at A5 st5
  have ne_b1_b5 : b1 ≠ b5 := Nat.ne_of_lt (Nat.lt_of_lt_of_eq V1.lt g5.symm)
  have ne_x1_b5 : x1 ≠ b5 := Nat.ne_of_lt (Nat.lt_of_lt_of_eq Ex.lt g5.symm)
  have ne_y1_b5 : y1 ≠ b5 := Nat.ne_of_lt (Nat.lt_of_lt_of_eq Ey.lt g5.symm)
  have ne_z1_b5 : z1 ≠ b5 := Nat.ne_of_lt (Nat.lt_of_lt_of_eq Ez.lt g5.symm)
  have g_b5 : n0 ≤ b5 := Nat.le_trans Z0 (Nat.le_of_eq g5.symm)
  have sz_b5 : h0.size ≤ b5 := Nat.le_trans K2.1 (Nat.le_of_eq g5.symm)
  have Z5 : n0 ≤ h5.size := Nat.le_trans Z0 E5.1
  have f6_0 := V1.ext E5
  have f6_1 := Ex.ext E5
  have f6_2 := Ey.ext E5
  have f6_3 := Ez.ext E5
  have K7 := K2.ext E5
  have V5 := Arv.new A5 (by decide)
  have pre8 : own_G p e below T5 s₁ _ _ := fun t k => pre4 t (by
    refine st5 _ ?_
    refine XS.astoreN X5.here hx rfl (hb hby dlfa_5) rfl rfl (l' := #[own_r b1, own_r b5, .unset]) rfl ?_
    refine XS.iconst X5.here hx rfl (hb hby dlfa_6) ?_
    refine XS.istoreN X5.here hx rfl (hb hby dlfa_7) rfl (l' := #[own_r b1, own_r b5, .val (.int (0 : Int32))]) rfl ?_
    exact k)
  have V9 : Arv Z h5 b5 k5 (.object "java/lang/Object") (3 : Int32) [.null, .null, .null] .null := V5.pad (pad_rep [] .null 3)
  obtain ⟨cl10, Ar10, kc10, S10, M10, H10, G10⟩ := id f6_0
  obtain ⟨cl11, Ar11, kc11, S11, M11, H11, G11⟩ := id f6_0
  have hin11 := inb_of S11 (j := (0 : Int32)) (by decide)
  have hat11 : cl11.slots[((0 : Int32)).toNatClampNeg]? = some (.ref x1) := H11.at hin11 rfl
  have pre12 : own_G p e below T5 s₁ _ _ := fun t k => pre8 t (by
    refine XS.iloadN X5.here hx rfl (hb hby dlfa_8) rfl ?_
    refine XS.aloadN X5.here hx rfl (hb hby dlfa_9) rfl rfl ?_
    refine X5.arraylength hx (cell := cl10) (by rw [e5]; exact Ar10.1) (State.isArrayOf_alike hZ.alike Ar10.2.1) (g := (mkF m 10 #[own_r b1, own_r b5, .val (.int (0 : Int32))] [(.ref b1), (.int (0 : Int32))])) rfl (rest := [(.int (0 : Int32))]) rfl (hb hby dlfa_10) _ ?_
    rw [len_of S10 M10]
    refine XS.icmpNo X5.here hx rfl (hb hby dlfa_11) rfl (XT.ii_ge_f (by decide)) ?_
    refine XS.aloadN X5.here hx rfl (hb hby dlfa_14) rfl rfl ?_
    refine XS.iloadN X5.here hx rfl (hb hby dlfa_15) rfl ?_
    refine XS.aloadN X5.here hx rfl (hb hby dlfa_16) rfl rfl ?_
    refine XS.iloadN X5.here hx rfl (hb hby dlfa_17) rfl ?_
    refine X5.aaload hx (j := (0 : Int32)) (v := (.ref x1)) (by rw [e5]; exact Ar11.1) (State.isArrayOf_alike hZ.alike Ar11.2.1) rfl Ar11.2.2 hin11 hat11 (g := (mkF m 18 #[own_r b1, own_r b5, .val (.int (0 : Int32))] [(.int (0 : Int32)), (.ref b1), (.int (0 : Int32)), (.ref b5)])) rfl rfl (hb hby dlfa_18) _ ?_
    exact k)
  obtain ⟨_, _, ⟨T13, L13, kk13, nn13⟩, -, X13, ⟨Lc13, hQ13, l13, y13, z13⟩, st13⟩ := Jvm.LawKit.callS X5 hx (y := own_y5) hown (mvT hZ (own_h hw 253 rfl)) (mvT hZ (own_h hw 254 rfl)) (mvT hZ (own_h hw 255 rfl)) (mvT hZ (own_h hw 256 rfl)) (by decide) (backOf (W := 2) (rm_rnn l Z a0 hw [] x1 h5 n0 Z5 ) hZ (own_h hw 256 rfl) (own_h hw 255 rfl) (by decide) (by decide)) (g := (mkF m 19 #[own_r b1, own_r b5, .val (.int (0 : Int32))] [(.ref x1), (.int (0 : Int32)), (.ref b5)])) rfl (by rw [hml]; rfl) (argsL := [(.ref x1)]) (rest := [(.int (0 : Int32)), (.ref b5)]) (lenOf pd__Ljava_lang_Object__Ljava_lang_Object_ rfl) rfl (by show 2 * 0 + _ ≤ _; exact Nat.le_of_eq rfl) (hb hby dlfa_19) (fun _ _ => ⟨rfl, e5, (by decide : 1 + 0 ≤ _), (by decide : 3 + 0 ≤ _)⟩)
  dsimp only [Pt.U, Pt.locs, Pt.cells, Pt.slots] at X13 l13 y13 z13 st13 hQ13
  subst l13 y13 z13
  obtain ⟨rfl, N13q, eq13⟩ := hQ13
  have N13 := Fr.app N0 N13q
  have pre14 : own_G p e below T13 s₁ _ _ := fun t k => pre12 t (by
    refine st13 _ ?_
    exact k)
  obtain ⟨cl15, Ar15, kc15, S15, M15, H15, G15⟩ := id V9
  have hin15 := inb_of S15 (j := (0 : Int32)) (by decide)
  obtain ⟨T15, h15, X15, e15, W15, st15⟩ := stR X13 hx hZ eq13 Ar15 (j := (0 : Int32)) hin15 rfl (Sto.ofV Ar15 kc15 O5 (Ins.of_exa f6_1 (own_h hw 215 rfl))) (g := (mkF m 22 #[own_r b1, own_r b5, .val (.int (0 : Int32))] [(.ref x1), (.int (0 : Int32)), (.ref b5)])) rfl rfl (hb hby dlfa_22)
  have V15 : Arv Z h15 b5 k5 (.object "java/lang/Object") (3 : Int32) [.ref x1, .null, .null] .null := Arv.set Ar15 kc15 S15 M15 H15 G15 (v := (.ref x1)) rfl W15 0 (by decide) (by simp)
  have N15 := Fr.snoc X15 N13 g_b5
  have f16_0 := f6_0.other W15 ne_b1_b5
  have f16_1 := f6_1.wr W15
  have f16_2 := f6_2.wr W15
  have f16_3 := f6_3.wr W15
  have K17 := K7.wr W15 (Or.inr sz_b5)
  have Z15 : n0 ≤ h15.size := Nat.le_trans Z5 (Keep.of_wr W15).1
  obtain ⟨cl18, Ar18, kc18, S18, M18, H18, G18⟩ := id f16_0
  obtain ⟨cl19, Ar19, kc19, S19, M19, H19, G19⟩ := id f16_0
  have hin19 := inb_of S19 (j := (1 : Int32)) (by decide)
  have hat19 : cl19.slots[((1 : Int32)).toNatClampNeg]? = some (.ref y1) := H19.at hin19 rfl
  have pre20 : own_G p e below T15 s₁ _ _ := fun t k => pre14 t (by
    refine st15 _ ?_
    refine XT.iincV X15.here hx rfl (1 : Int32) (hb hby dlfa_23) (by decide) rfl (l' := #[own_r b1, own_r b5, .val (.int ((0 : Int32) + (1 : Int32)))]) rfl ?_
    show Steps p.tables e below (T15.setTop (mkF m 26 #[own_r b1, own_r b5, .val (.int ((0 : Int32) + (1 : Int32)))] [])) _
    rw [show ((0 : Int32) + (1 : Int32)) = (1 : Int32) from by decide]
    refine XS.goto X15.here hx rfl (pc0 := 26) (pc' := 8) rfl (hb hby dlfa_26) (by decide) (by decide) ?_
    refine XS.iloadN X15.here hx rfl (hb hby dlfa_8) rfl ?_
    refine XS.aloadN X15.here hx rfl (hb hby dlfa_9) rfl rfl ?_
    refine X15.arraylength hx (cell := cl18) (by rw [e15]; exact Ar18.1) (State.isArrayOf_alike hZ.alike Ar18.2.1) (g := (mkF m 10 #[own_r b1, own_r b5, .val (.int (1 : Int32))] [(.ref b1), (.int (1 : Int32))])) rfl (rest := [(.int (1 : Int32))]) rfl (hb hby dlfa_10) _ ?_
    rw [len_of S18 M18]
    refine XS.icmpNo X15.here hx rfl (hb hby dlfa_11) rfl (XT.ii_ge_f (by decide)) ?_
    refine XS.aloadN X15.here hx rfl (hb hby dlfa_14) rfl rfl ?_
    refine XS.iloadN X15.here hx rfl (hb hby dlfa_15) rfl ?_
    refine XS.aloadN X15.here hx rfl (hb hby dlfa_16) rfl rfl ?_
    refine XS.iloadN X15.here hx rfl (hb hby dlfa_17) rfl ?_
    refine X15.aaload hx (j := (1 : Int32)) (v := (.ref y1)) (by rw [e15]; exact Ar19.1) (State.isArrayOf_alike hZ.alike Ar19.2.1) rfl Ar19.2.2 hin19 hat19 (g := (mkF m 18 #[own_r b1, own_r b5, .val (.int (1 : Int32))] [(.int (1 : Int32)), (.ref b1), (.int (1 : Int32)), (.ref b5)])) rfl rfl (hb hby dlfa_18) _ ?_
    exact k)
  obtain ⟨_, _, ⟨T21, L21, kk21, nn21⟩, -, X21, ⟨Lc21, hQ21, l21, y21, z21⟩, st21⟩ := Jvm.LawKit.callS X15 hx (y := own_y5) hown (mvT hZ (own_h hw 253 rfl)) (mvT hZ (own_h hw 254 rfl)) (mvT hZ (own_h hw 255 rfl)) (mvT hZ (own_h hw 256 rfl)) (by decide) (backOf (W := 2) (rm_rnn l Z a0 hw [] y1 h15 n0 Z15 ) hZ (own_h hw 256 rfl) (own_h hw 255 rfl) (by decide) (by decide)) (g := (mkF m 19 #[own_r b1, own_r b5, .val (.int (1 : Int32))] [(.ref y1), (.int (1 : Int32)), (.ref b5)])) rfl (by rw [hml]; rfl) (argsL := [(.ref y1)]) (rest := [(.int (1 : Int32)), (.ref b5)]) (lenOf pd__Ljava_lang_Object__Ljava_lang_Object_ rfl) rfl (by show 2 * 0 + _ ≤ _; exact Nat.le_of_eq rfl) (hb hby dlfa_19) (fun _ _ => ⟨rfl, e15, (by decide : 1 + 0 ≤ _), (by decide : 3 + 0 ≤ _)⟩)
  dsimp only [Pt.U, Pt.locs, Pt.cells, Pt.slots] at X21 l21 y21 z21 st21 hQ21
  subst l21 y21 z21
  obtain ⟨rfl, N21q, eq21⟩ := hQ21
  have N21 := Fr.app N15 N21q
  have pre22 : own_G p e below T21 s₁ _ _ := fun t k => pre20 t (by
    refine st21 _ ?_
    exact k)
  obtain ⟨cl23, Ar23, kc23, S23, M23, H23, G23⟩ := id V15
  have hin23 := inb_of S23 (j := (1 : Int32)) (by decide)
  obtain ⟨T23, h23, X23, e23, W23, st23⟩ := stR X21 hx hZ eq21 Ar23 (j := (1 : Int32)) hin23 rfl (Sto.ofV Ar23 kc23 O5 (Ins.of_exa f16_2 (own_h hw 215 rfl))) (g := (mkF m 22 #[own_r b1, own_r b5, .val (.int (1 : Int32))] [(.ref y1), (.int (1 : Int32)), (.ref b5)])) rfl rfl (hb hby dlfa_22)
  have V23 : Arv Z h23 b5 k5 (.object "java/lang/Object") (3 : Int32) [.ref x1, .ref y1, .null] .null := Arv.set Ar23 kc23 S23 M23 H23 G23 (v := (.ref y1)) rfl W23 1 (by decide) (by simp)
  have N23 := Fr.snoc X23 N21 g_b5
  have f24_0 := f16_0.other W23 ne_b1_b5
  have f24_1 := f16_1.wr W23
  have f24_2 := f16_2.wr W23
  have f24_3 := f16_3.wr W23
  have K25 := K17.wr W23 (Or.inr sz_b5)
  have Z23 : n0 ≤ h23.size := Nat.le_trans Z15 (Keep.of_wr W23).1
  obtain ⟨cl26, Ar26, kc26, S26, M26, H26, G26⟩ := id f24_0
  obtain ⟨cl27, Ar27, kc27, S27, M27, H27, G27⟩ := id f24_0
  have hin27 := inb_of S27 (j := (2 : Int32)) (by decide)
  have hat27 : cl27.slots[((2 : Int32)).toNatClampNeg]? = some (.ref z1) := H27.at hin27 rfl
  have pre28 : own_G p e below T23 s₁ _ _ := fun t k => pre22 t (by
    refine st23 _ ?_
    refine XT.iincV X23.here hx rfl (1 : Int32) (hb hby dlfa_23) (by decide) rfl (l' := #[own_r b1, own_r b5, .val (.int ((1 : Int32) + (1 : Int32)))]) rfl ?_
    show Steps p.tables e below (T23.setTop (mkF m 26 #[own_r b1, own_r b5, .val (.int ((1 : Int32) + (1 : Int32)))] [])) _
    rw [show ((1 : Int32) + (1 : Int32)) = (2 : Int32) from by decide]
    refine XS.goto X23.here hx rfl (pc0 := 26) (pc' := 8) rfl (hb hby dlfa_26) (by decide) (by decide) ?_
    refine XS.iloadN X23.here hx rfl (hb hby dlfa_8) rfl ?_
    refine XS.aloadN X23.here hx rfl (hb hby dlfa_9) rfl rfl ?_
    refine X23.arraylength hx (cell := cl26) (by rw [e23]; exact Ar26.1) (State.isArrayOf_alike hZ.alike Ar26.2.1) (g := (mkF m 10 #[own_r b1, own_r b5, .val (.int (2 : Int32))] [(.ref b1), (.int (2 : Int32))])) rfl (rest := [(.int (2 : Int32))]) rfl (hb hby dlfa_10) _ ?_
    rw [len_of S26 M26]
    refine XS.icmpNo X23.here hx rfl (hb hby dlfa_11) rfl (XT.ii_ge_f (by decide)) ?_
    refine XS.aloadN X23.here hx rfl (hb hby dlfa_14) rfl rfl ?_
    refine XS.iloadN X23.here hx rfl (hb hby dlfa_15) rfl ?_
    refine XS.aloadN X23.here hx rfl (hb hby dlfa_16) rfl rfl ?_
    refine XS.iloadN X23.here hx rfl (hb hby dlfa_17) rfl ?_
    refine X23.aaload hx (j := (2 : Int32)) (v := (.ref z1)) (by rw [e23]; exact Ar27.1) (State.isArrayOf_alike hZ.alike Ar27.2.1) rfl Ar27.2.2 hin27 hat27 (g := (mkF m 18 #[own_r b1, own_r b5, .val (.int (2 : Int32))] [(.int (2 : Int32)), (.ref b1), (.int (2 : Int32)), (.ref b5)])) rfl rfl (hb hby dlfa_18) _ ?_
    exact k)
  obtain ⟨_, _, ⟨T29, L29, kk29, nn29⟩, -, X29, ⟨Lc29, hQ29, l29, y29, z29⟩, st29⟩ := Jvm.LawKit.callS X23 hx (y := own_y5) hown (mvT hZ (own_h hw 253 rfl)) (mvT hZ (own_h hw 254 rfl)) (mvT hZ (own_h hw 255 rfl)) (mvT hZ (own_h hw 256 rfl)) (by decide) (backOf (W := 2) (rm_rnn l Z a0 hw [] z1 h23 n0 Z23 ) hZ (own_h hw 256 rfl) (own_h hw 255 rfl) (by decide) (by decide)) (g := (mkF m 19 #[own_r b1, own_r b5, .val (.int (2 : Int32))] [(.ref z1), (.int (2 : Int32)), (.ref b5)])) rfl (by rw [hml]; rfl) (argsL := [(.ref z1)]) (rest := [(.int (2 : Int32)), (.ref b5)]) (lenOf pd__Ljava_lang_Object__Ljava_lang_Object_ rfl) rfl (by show 2 * 0 + _ ≤ _; exact Nat.le_of_eq rfl) (hb hby dlfa_19) (fun _ _ => ⟨rfl, e23, (by decide : 1 + 0 ≤ _), (by decide : 3 + 0 ≤ _)⟩)
  dsimp only [Pt.U, Pt.locs, Pt.cells, Pt.slots] at X29 l29 y29 z29 st29 hQ29
  subst l29 y29 z29
  obtain ⟨rfl, N29q, eq29⟩ := hQ29
  have N29 := Fr.app N23 N29q
  have pre30 : own_G p e below T29 s₁ _ _ := fun t k => pre28 t (by
    refine st29 _ ?_
    exact k)
  obtain ⟨cl31, Ar31, kc31, S31, M31, H31, G31⟩ := id V23
  have hin31 := inb_of S31 (j := (2 : Int32)) (by decide)
  obtain ⟨T31, h31, X31, e31, W31, st31⟩ := stR X29 hx hZ eq29 Ar31 (j := (2 : Int32)) hin31 rfl (Sto.ofV Ar31 kc31 O5 (Ins.of_exa f24_3 (own_h hw 215 rfl))) (g := (mkF m 22 #[own_r b1, own_r b5, .val (.int (2 : Int32))] [(.ref z1), (.int (2 : Int32)), (.ref b5)])) rfl rfl (hb hby dlfa_22)
  have V31 : Arv Z h31 b5 k5 (.object "java/lang/Object") (3 : Int32) [.ref x1, .ref y1, .ref z1] .null := Arv.set Ar31 kc31 S31 M31 H31 G31 (v := (.ref z1)) rfl W31 2 (by decide) (by simp)
  have N31 := Fr.snoc X31 N29 g_b5
  have f32_0 := f24_0.other W31 ne_b1_b5
  have f32_1 := f24_1.wr W31
  have f32_2 := f24_2.wr W31
  have f32_3 := f24_3.wr W31
  have K33 := K25.wr W31 (Or.inr sz_b5)
  have Z31 : n0 ≤ h31.size := Nat.le_trans Z23 (Keep.of_wr W31).1
  obtain ⟨cl34, Ar34, kc34, S34, M34, H34, G34⟩ := id f32_0
  have pre35 : own_G p e below T31 s₁ _ _ := fun t k => pre30 t (by
    refine st31 _ ?_
    refine XT.iincV X31.here hx rfl (1 : Int32) (hb hby dlfa_23) (by decide) rfl (l' := #[own_r b1, own_r b5, .val (.int ((2 : Int32) + (1 : Int32)))]) rfl ?_
    show Steps p.tables e below (T31.setTop (mkF m 26 #[own_r b1, own_r b5, .val (.int ((2 : Int32) + (1 : Int32)))] [])) _
    rw [show ((2 : Int32) + (1 : Int32)) = (3 : Int32) from by decide]
    refine XS.goto X31.here hx rfl (pc0 := 26) (pc' := 8) rfl (hb hby dlfa_26) (by decide) (by decide) ?_
    refine XS.iloadN X31.here hx rfl (hb hby dlfa_8) rfl ?_
    refine XS.aloadN X31.here hx rfl (hb hby dlfa_9) rfl rfl ?_
    refine X31.arraylength hx (cell := cl34) (by rw [e31]; exact Ar34.1) (State.isArrayOf_alike hZ.alike Ar34.2.1) (g := (mkF m 10 #[own_r b1, own_r b5, .val (.int (3 : Int32))] [(.ref b1), (.int (3 : Int32))])) rfl (rest := [(.int (3 : Int32))]) rfl (hb hby dlfa_10) _ ?_
    rw [len_of S34 M34]
    refine XS.icmpYes X31.here hx rfl (pc0 := 11) (pc' := 29) rfl (hb hby dlfa_11) rfl (XT.ii_ge_t (by decide)) (by decide) (by decide) ?_
    exact k)
  obtain ⟨T36, h36, X36, e36, E36, A36, D36, -, st36⟩ := newO X31 hx hZ hown (own_h hw 69 rfl) (own_h hw 257 rfl) (own_h hw 258 rfl) e31 (g := (mkF m 29 #[own_r b1, own_r b5, .val (.int (3 : Int32))] [])) rfl (hb hby dlfa_29) (by decide) (by decide)
  obtain ⟨b36, g36⟩ : ∃ z, z = h31.size := ⟨_, rfl⟩
  rw [← g36] at A36 D36 st36
  have ne_b1_b36 : b1 ≠ b36 := Nat.ne_of_lt (Nat.lt_of_lt_of_eq f32_0.lt g36.symm)
  have ne_x1_b36 : x1 ≠ b36 := Nat.ne_of_lt (Nat.lt_of_lt_of_eq f32_1.lt g36.symm)
  have ne_y1_b36 : y1 ≠ b36 := Nat.ne_of_lt (Nat.lt_of_lt_of_eq f32_2.lt g36.symm)
  have ne_z1_b36 : z1 ≠ b36 := Nat.ne_of_lt (Nat.lt_of_lt_of_eq f32_3.lt g36.symm)
  have ne_b5_b36 : b5 ≠ b36 := Nat.ne_of_lt (Nat.lt_of_lt_of_eq V31.lt g36.symm)
  have g_b36 : n0 ≤ b36 := Nat.le_trans Z31 (Nat.le_of_eq g36.symm)
  have sz_b36 : h0.size ≤ b36 := Nat.le_trans K33.1 (Nat.le_of_eq g36.symm)
  have Z36 : n0 ≤ h36.size := Nat.le_trans Z31 E36.1
  have f37_0 := f32_0.ext E36
  have f37_1 := f32_1.ext E36
  have f37_2 := f32_2.ext E36
  have f37_3 := f32_3.ext E36
  have f37_4 := V31.ext E36
  have K38 := K33.ext E36
  have F36_elements : Fld Z h36 b36 "java/util/ImmutableCollections$ListN" "elements" "[Ljava/lang/Object;" .null := D36 (Or.inr (own_h hw 278 rfl)) (ty := (.array (.object "java/lang/Object"))) (by decide)
  have F36_allowNulls : Fld Z h36 b36 "java/util/ImmutableCollections$ListN" "allowNulls" "Z" (.int (0 : Int32)) := D36 (Or.inr (own_h hw 280 rfl)) (ty := .boolean) (by decide)
  have pre39 : own_G p e below T36 s₁ _ _ := fun t k => pre35 t (by
    refine st36 _ ?_
    refine XS.dup X36.here hx rfl (hb hby dlfa_32) rfl rfl ?_
    refine XS.aloadN X36.here hx rfl (hb hby dlfa_33) rfl rfl ?_
    refine XS.iconst X36.here hx rfl (hb hby dlfa_34) ?_
    exact k)
  obtain ⟨_, _, ⟨T40, L40, kk40, nn40⟩, -, X40, ⟨Lc40, hQ40, l40, y40, z40⟩, st40⟩ := X36.specialBackNest hx (y := own_y45) rfl hown (Cond.methodLinkNest_wide hZ (own_h hw 259 rfl)) (mvT hZ (own_h hw 260 rfl)) (mvT hZ (own_h hw 262 rfl)) (by decide) (backOf (W := 1) (rm_lni l Z a0 hw [] b36 b5 h36 n0 Z36 A36 F36_elements F36_allowNulls g_b36) hZ (own_h hw 262 rfl) (own_h hw 258 rfl) (by decide) (by decide)) (g := (mkF m 35 #[own_r b1, own_r b5, .val (.int (3 : Int32))] [(.int (0 : Int32)), (.ref b5), (.ref b36), (.ref b36)])) rfl (by rw [hml]; rfl) (Steps.refl _) (a := b36) (argsL := [(.ref b5), (.int (0 : Int32))]) (rest := [(.ref b36)]) (lenOf pd___Ljava_lang_Object_Z_V rfl) rfl (by show 2 * 0 + _ ≤ _; exact Nat.le_of_eq rfl) (hb hby dlfa_35) (fun _ _ => ⟨rfl, e36, (by decide : 2 + 0 ≤ _), (by decide : 5 + 0 ≤ _)⟩)
  dsimp only [Pt.U, Pt.locs, Pt.cells, Pt.slots] at X40 l40 y40 z40 st40 hQ40
  subst l40 y40 z40
  obtain ⟨rfl, N40q, Kc40, Fn40⟩ := hQ40
  have N40 := Fr.app N31 N40q
  have f41_0 := f37_0.keep Kc40 (own_nm1 ne_b1_b36)
  have f41_1 := f37_1.keep Kc40
  have f41_2 := f37_2.keep Kc40
  have f41_3 := f37_3.keep Kc40
  have f41_4 := f37_4.keep Kc40 (own_nm1 ne_b5_b36)
  have f41_5 := A36.keep Kc40
  have K42 := K38.trans Kc40 (fun x hx => by cases List.mem_singleton.mp hx; exact (Or.inr sz_b36))
  have Z40 : n0 ≤ T40.heap.size := Nat.le_trans Z36 Kc40.1
  have e40 : T40.heap = T40.heap := rfl
  have pre43 : own_G p e below T40 s₁ _ _ := fun t k => pre39 t (by
    refine st40.trans ?_
    exact k)
  obtain ⟨fs, hr, hrun, hended, hW, hsame⟩ := X40.leave (v := some (.ref b36)) (fun h => by rw [Bd.returns] at h; cases h)
  refine ⟨_, _, pre43 _ ?_, hrun, hended, _, _, rfl, ?_, ⟨_, rfl⟩, hW, hsame.mono (by decide) (by decide)⟩
  · show Steps p.tables e below (T40.setTop (mkF m 38 #[own_r b1, own_r b5, .val (.int (3 : Int32))] [(.ref b36)])) _
    jvm_step X40.here [X40.here.top, hx, (hb hby dlfa_38), X40.method', Bd.returns, Value.isRef, FieldType.isReference]
    first | (intro acts; rw [hr _ acts rfl rfl rfl]) | rw [hr _ _ rfl rfl rfl]
    exact Steps.refl _
  · show Q_lfa Z b1 x1 y1 z1 em k1 h0 n0 _ T40.heap _
    skip
    exact ⟨b36, rfl, N40, K42, f41_5.lt, Or.inr (Or.inr (Or.inr ⟨x1, y1, z1, b5, _, rfl, f41_5, f41_4.lt, Fn40, f41_4⟩))⟩
theorem dlof1_0 : decode own_k7 0 = .ok (.aload_n 0, 1) := by decide +kernel
theorem dlof1_1 : decode own_k7 1 = .ok (.arraylength, 1) := by decide +kernel
theorem dlof1_2 : decode own_k7 2 = .ok (.tableswitch 57 0 2 #[26, 32, 43], 26) := by decide +kernel
theorem dlof1_34 : decode own_k7 34 = .ok (.new 96, 3) := by decide +kernel
theorem dlof1_37 : decode own_k7 37 = .ok (.dup, 1) := by decide +kernel
theorem dlof1_38 : decode own_k7 38 = .ok (.aload_n 0, 1) := by decide +kernel
theorem dlof1_39 : decode own_k7 39 = .ok (.iconst 0, 1) := by decide +kernel
theorem dlof1_40 : decode own_k7 40 = .ok (.aaload, 1) := by decide +kernel
theorem dlof1_41 : decode own_k7 41 = .ok (.invokespecial 98, 3) := by decide +kernel
theorem dlof1_44 : decode own_k7 44 = .ok (.areturn, 1) := by decide +kernel
theorem pd__Ljava_lang_Object__V : parseMethodDescriptor "(Ljava/lang/Object;)V" = some ⟨[(.object "java/lang/Object")], none⟩ := by decide +kernel
theorem ef_lof1 (m : MethodId) (b1 : Addr) : entryFrame m #[(.ref b1)] 2 = (mkF m 0 #[own_r b1, .unset] []) := by first | (simp [entryFrame, mkF, argsToLocals, Value.category]; done) | rfl
def Q_lof1 (Z : State) (b1 x1 em : Addr) (k1 : ClassId) (h0 : Heap) (n0 : Nat) (v : Option Value) (h : Heap) (L : List Loc) : Prop := ∃ lr : Addr, v = some (.ref lr) ∧ Fr n0 L ∧ Keep h0 h [] ∧ own_Kids Z h em h.size lr [x1]
theorem rm_lof1 (l : Launch) (Z : State) (a0 : Array Value) (hw : own_W a0 Z) (ws : List Jvm.Cond) (b1 x1 em : Addr) (k1 : ClassId) (h0 : Heap) (n0 : Nat) (Z0 : n0 ≤ h0.size) (SEM : Sta Z h0 "java/util/ImmutableCollections" "EMPTY" "Ljava/lang/Object;" (.ref em)) (EM : Exa Z h0 em "java/lang/Object") (V1 : Arv Z h0 b1 k1 (.object "java/lang/Object") (1 : Int32) [.ref x1] .null) (Ex : Exa Z h0 x1 "com/example/tributary/tributary/merge/Tree") :
    own_M l Z h0 ws own_y9 jdk_40_method_47_code 2 (some (.object "java/util/List")) (⟨5, 1, 2, 63⟩ : Room) #[(.ref b1)] (Q_lof1 Z b1 x1 em k1 h0 n0) := by
  refine MetFree.of_bodySF (plainFor_of_name pn_lo0) hisR ?_
  intro p e s m args below meth c s₁ Bd hml0 hP hK
  obtain ⟨rfl, hZ, hh⟩ := hP
  have hx := Bd.exec
  have hby := Bd.bytes
  have hml : c.maxLocals = 2 := hml0
  have hown : s.vm.findClass "java/util/List" = some m.cls := findClass_of_methodNamed Bd.named
  have hnm := (name_of_methodNamed Bd.named Bd.method).1
  have X0 : Stand p l e (⟨5, 1, 2, 63⟩ : Room) s m #[(.ref b1)] below meth c s₁ [] 0 0 := Stand.of_body Bd
  have e0 : s₁.heap = h0 := by rw [← hh, Bd.state]; rfl
  have N0 := Fr.nil n0
  have pre0 : ∀ t, Steps p.tables e below (s₁.setTop (mkF m 0 #[own_r b1, .unset] [])) t → Steps p.tables e below (s₁.setTop (entryFrame m #[(.ref b1)] 2)) t := fun t k => castTop (ef_lof1 m b1) k
  have K2 : Keep h0 h0 [] := Keep.refl h0 []
  obtain ⟨cl3, Ar3, kc3, S3, M3, H3, G3⟩ := id V1
  have pre4 : own_G p e below s₁ s₁ _ _ := fun t k => pre0 t (by
    refine XS.aloadN X0.here hx rfl (hb hby dlof1_0) rfl rfl ?_
    refine X0.arraylength hx (cell := cl3) (by rw [e0]; exact Ar3.1) (State.isArrayOf_alike hZ.alike Ar3.2.1) (g := (mkF m 1 #[own_r b1, .unset] [(.ref b1)])) rfl (rest := []) rfl (hb hby dlof1_1) _ ?_
    rw [len_of S3 M3]
    refine XS.tswIn X0.here hx rfl (pc0 := 2) (pc' := 34) rfl (hb hby dlof1_2) (i := (1 : Int32)) rfl (by decide) (o := 32) rfl (by decide) (by decide) ?_
    exact k)
  obtain ⟨T5, h5, X5, e5, E5, A5, D5, -, st5⟩ := newO X0 hx hZ hown (own_h hw 360 rfl) (own_h hw 361 rfl) (own_h hw 362 rfl) e0 (g := (mkF m 34 #[own_r b1, .unset] [])) rfl (hb hby dlof1_34) (by decide) (by decide)
  obtain ⟨b5, g5⟩ : ∃ z, z = h0.size := ⟨_, rfl⟩
  rw [← g5] at A5 D5 st5
  have ne_b1_b5 : b1 ≠ b5 := Nat.ne_of_lt (Nat.lt_of_lt_of_eq V1.lt g5.symm)
  have g_b5 : n0 ≤ b5 := Nat.le_trans Z0 (Nat.le_of_eq g5.symm)
  have sz_b5 : h0.size ≤ b5 := Nat.le_trans K2.1 (Nat.le_of_eq g5.symm)
  have Z5 : n0 ≤ h5.size := Nat.le_trans Z0 E5.1
  have f6_0 := V1.ext E5
  have f6_1 := SEM.ext E5
  have K7 := K2.ext E5
  have F5_e0 : Fld Z h5 b5 "java/util/ImmutableCollections$List12" "e0" "Ljava/lang/Object;" .null := D5 (Or.inr (own_h hw 373 rfl)) (ty := (.object "java/lang/Object")) (by decide)
  have F5_e1 : Fld Z h5 b5 "java/util/ImmutableCollections$List12" "e1" "Ljava/lang/Object;" .null := D5 (Or.inr (own_h hw 376 rfl)) (ty := (.object "java/lang/Object")) (by decide)
  obtain ⟨cl8, Ar8, kc8, S8, M8, H8, G8⟩ := id f6_0
  have hin8 := inb_of S8 (j := (0 : Int32)) (by decide)
  have hat8 : cl8.slots[((0 : Int32)).toNatClampNeg]? = some (.ref x1) := H8.at hin8 rfl
  have pre9 : own_G p e below T5 s₁ _ _ := fun t k => pre4 t (by
    refine st5 _ ?_
    refine XS.dup X5.here hx rfl (hb hby dlof1_37) rfl rfl ?_
    refine XS.aloadN X5.here hx rfl (hb hby dlof1_38) rfl rfl ?_
    refine XS.iconst X5.here hx rfl (hb hby dlof1_39) ?_
    refine X5.aaload hx (j := (0 : Int32)) (v := (.ref x1)) (by rw [e5]; exact Ar8.1) (State.isArrayOf_alike hZ.alike Ar8.2.1) rfl Ar8.2.2 hin8 hat8 (g := (mkF m 40 #[own_r b1, .unset] [(.int (0 : Int32)), (.ref b1), (.ref b5), (.ref b5)])) rfl rfl (hb hby dlof1_40) _ ?_
    exact k)
  obtain ⟨_, _, ⟨T10, L10, kk10, nn10⟩, -, X10, ⟨Lc10, hQ10, l10, y10, z10⟩, st10⟩ := X5.specialBack hx (y := own_y43) rfl hown (mvT hZ (own_h hw 363 rfl)) (mvT hZ (own_h hw 364 rfl)) (mvT hZ (own_h hw 366 rfl)) (by decide) (backOf (W := 1) (rm_l1i l Z a0 hw [] b5 x1 em h5 n0 Z5 f6_1 A5 F5_e0 F5_e1 g_b5) hZ (own_h hw 366 rfl) (own_h hw 362 rfl) (by decide) (by decide)) (g := (mkF m 41 #[own_r b1, .unset] [(.ref x1), (.ref b5), (.ref b5)])) rfl (by rw [hml]; rfl) (Steps.refl _) (a := b5) (argsL := [(.ref x1)]) (rest := [(.ref b5)]) (lenOf pd__Ljava_lang_Object__V rfl) rfl (by show 2 * 0 + _ ≤ _; exact Nat.le_of_eq rfl) (hb hby dlof1_41) (fun _ _ => ⟨rfl, e5, (by decide : 1 + 0 ≤ _), (by decide : 2 + 0 ≤ _)⟩)
  dsimp only [Pt.U, Pt.locs, Pt.cells, Pt.slots] at X10 l10 y10 z10 st10 hQ10
  subst l10 y10 z10
  obtain ⟨rfl, N10q, Kc10, Fa10, Fb10⟩ := hQ10
  have N10 := Fr.app N0 N10q
  have f11_0 := f6_0.keep Kc10 (own_nm1 ne_b1_b5)
  have f11_1 := own_sta_keep f6_1 Kc10 (by intro x hx; simp only [List.mem_cons, List.not_mem_nil, or_false] at hx; rcases hx with rfl; exact own_ns_exa A5)
  have f11_2 := A5.keep Kc10
  have K12 := K7.trans Kc10 (fun x hx => by cases List.mem_singleton.mp hx; exact (Or.inr sz_b5))
  have Z10 : n0 ≤ T10.heap.size := Nat.le_trans Z5 Kc10.1
  have e10 : T10.heap = T10.heap := rfl
  have pre13 : own_G p e below T10 s₁ _ _ := fun t k => pre9 t (by
    refine st10.trans ?_
    exact k)
  obtain ⟨fs, hr, hrun, hended, hW, hsame⟩ := X10.leave (v := some (.ref b5)) (fun h => by rw [Bd.returns] at h; cases h)
  refine ⟨_, _, pre13 _ ?_, hrun, hended, _, _, rfl, ?_, ⟨_, rfl⟩, hW, hsame.mono (by decide) (by decide)⟩
  · show Steps p.tables e below (T10.setTop (mkF m 44 #[own_r b1, .unset] [(.ref b5)])) _
    jvm_step X10.here [X10.here.top, hx, (hb hby dlof1_44), X10.method', Bd.returns, Value.isRef, FieldType.isReference]
    first | (intro acts; rw [hr _ acts rfl rfl rfl]) | rw [hr _ _ rfl rfl rfl]
    exact Steps.refl _
  · show Q_lof1 Z b1 x1 em k1 h0 n0 _ T10.heap _
    skip
    exact ⟨b5, rfl, N10, K12, f11_2.lt, Or.inr (Or.inl ⟨x1, rfl, f11_2, Fa10, Fb10⟩)⟩
theorem dlof2_0 : decode own_k7 0 = .ok (.aload_n 0, 1) := by decide +kernel
theorem dlof2_1 : decode own_k7 1 = .ok (.arraylength, 1) := by decide +kernel
theorem dlof2_2 : decode own_k7 2 = .ok (.tableswitch 57 0 2 #[26, 32, 43], 26) := by decide +kernel
theorem dlof2_45 : decode own_k7 45 = .ok (.new 96, 3) := by decide +kernel
theorem dlof2_48 : decode own_k7 48 = .ok (.dup, 1) := by decide +kernel
theorem dlof2_49 : decode own_k7 49 = .ok (.aload_n 0, 1) := by decide +kernel
theorem dlof2_50 : decode own_k7 50 = .ok (.iconst 0, 1) := by decide +kernel
theorem dlof2_51 : decode own_k7 51 = .ok (.aaload, 1) := by decide +kernel
theorem dlof2_52 : decode own_k7 52 = .ok (.aload_n 0, 1) := by decide +kernel
theorem dlof2_53 : decode own_k7 53 = .ok (.iconst 1, 1) := by decide +kernel
theorem dlof2_54 : decode own_k7 54 = .ok (.aaload, 1) := by decide +kernel
theorem dlof2_55 : decode own_k7 55 = .ok (.invokespecial 100, 3) := by decide +kernel
theorem dlof2_58 : decode own_k7 58 = .ok (.areturn, 1) := by decide +kernel
theorem pd__Ljava_lang_Object_Ljava_lang_Object__V : parseMethodDescriptor "(Ljava/lang/Object;Ljava/lang/Object;)V" = some ⟨[(.object "java/lang/Object"), (.object "java/lang/Object")], none⟩ := by decide +kernel
theorem ef_lof2 (m : MethodId) (b1 : Addr) : entryFrame m #[(.ref b1)] 2 = (mkF m 0 #[own_r b1, .unset] []) := by first | (simp [entryFrame, mkF, argsToLocals, Value.category]; done) | rfl
def Q_lof2 (Z : State) (b1 x1 y1 em : Addr) (k1 : ClassId) (h0 : Heap) (n0 : Nat) (v : Option Value) (h : Heap) (L : List Loc) : Prop := ∃ lr : Addr, v = some (.ref lr) ∧ Fr n0 L ∧ Keep h0 h [] ∧ own_Kids Z h em h.size lr [x1, y1]
theorem rm_lof2 (l : Launch) (Z : State) (a0 : Array Value) (hw : own_W a0 Z) (ws : List Jvm.Cond) (b1 x1 y1 em : Addr) (k1 : ClassId) (h0 : Heap) (n0 : Nat) (Z0 : n0 ≤ h0.size) (SEM : Sta Z h0 "java/util/ImmutableCollections" "EMPTY" "Ljava/lang/Object;" (.ref em)) (EM : Exa Z h0 em "java/lang/Object") (V1 : Arv Z h0 b1 k1 (.object "java/lang/Object") (2 : Int32) [.ref x1, .ref y1] .null) (Ex : Exa Z h0 x1 "com/example/tributary/tributary/merge/Tree") (Ey : Exa Z h0 y1 "com/example/tributary/tributary/merge/Tree") :
    own_M l Z h0 ws own_y9 jdk_40_method_47_code 2 (some (.object "java/util/List")) (⟨5, 1, 2, 63⟩ : Room) #[(.ref b1)] (Q_lof2 Z b1 x1 y1 em k1 h0 n0) := by
  refine MetFree.of_bodySF (plainFor_of_name pn_lo0) hisR ?_
  intro p e s m args below meth c s₁ Bd hml0 hP hK
  obtain ⟨rfl, hZ, hh⟩ := hP
  have hx := Bd.exec
  have hby := Bd.bytes
  have hml : c.maxLocals = 2 := hml0
  have hown : s.vm.findClass "java/util/List" = some m.cls := findClass_of_methodNamed Bd.named
  have hnm := (name_of_methodNamed Bd.named Bd.method).1
  have X0 : Stand p l e (⟨5, 1, 2, 63⟩ : Room) s m #[(.ref b1)] below meth c s₁ [] 0 0 := Stand.of_body Bd
  have e0 : s₁.heap = h0 := by rw [← hh, Bd.state]; rfl
  have N0 := Fr.nil n0
  have pre0 : ∀ t, Steps p.tables e below (s₁.setTop (mkF m 0 #[own_r b1, .unset] [])) t → Steps p.tables e below (s₁.setTop (entryFrame m #[(.ref b1)] 2)) t := fun t k => castTop (ef_lof2 m b1) k
  have K2 : Keep h0 h0 [] := Keep.refl h0 []
  obtain ⟨cl3, Ar3, kc3, S3, M3, H3, G3⟩ := id V1
  have pre4 : own_G p e below s₁ s₁ _ _ := fun t k => pre0 t (by
    refine XS.aloadN X0.here hx rfl (hb hby dlof2_0) rfl rfl ?_
    refine X0.arraylength hx (cell := cl3) (by rw [e0]; exact Ar3.1) (State.isArrayOf_alike hZ.alike Ar3.2.1) (g := (mkF m 1 #[own_r b1, .unset] [(.ref b1)])) rfl (rest := []) rfl (hb hby dlof2_1) _ ?_
    rw [len_of S3 M3]
    refine XS.tswIn X0.here hx rfl (pc0 := 2) (pc' := 45) rfl (hb hby dlof2_2) (i := (2 : Int32)) rfl (by decide) (o := 43) rfl (by decide) (by decide) ?_
    exact k)
  obtain ⟨T5, h5, X5, e5, E5, A5, D5, -, st5⟩ := newO X0 hx hZ hown (own_h hw 360 rfl) (own_h hw 361 rfl) (own_h hw 362 rfl) e0 (g := (mkF m 45 #[own_r b1, .unset] [])) rfl (hb hby dlof2_45) (by decide) (by decide)
  obtain ⟨b5, g5⟩ : ∃ z, z = h0.size := ⟨_, rfl⟩
  rw [← g5] at A5 D5 st5
  have ne_b1_b5 : b1 ≠ b5 := Nat.ne_of_lt (Nat.lt_of_lt_of_eq V1.lt g5.symm)
  have g_b5 : n0 ≤ b5 := Nat.le_trans Z0 (Nat.le_of_eq g5.symm)
  have sz_b5 : h0.size ≤ b5 := Nat.le_trans K2.1 (Nat.le_of_eq g5.symm)
  have Z5 : n0 ≤ h5.size := Nat.le_trans Z0 E5.1
  have f6_0 := V1.ext E5
  have f6_1 := SEM.ext E5
  have K7 := K2.ext E5
  have F5_e0 : Fld Z h5 b5 "java/util/ImmutableCollections$List12" "e0" "Ljava/lang/Object;" .null := D5 (Or.inr (own_h hw 373 rfl)) (ty := (.object "java/lang/Object")) (by decide)
  have F5_e1 : Fld Z h5 b5 "java/util/ImmutableCollections$List12" "e1" "Ljava/lang/Object;" .null := D5 (Or.inr (own_h hw 376 rfl)) (ty := (.object "java/lang/Object")) (by decide)
  obtain ⟨cl8, Ar8, kc8, S8, M8, H8, G8⟩ := id f6_0
  have hin8 := inb_of S8 (j := (0 : Int32)) (by decide)
  have hat8 : cl8.slots[((0 : Int32)).toNatClampNeg]? = some (.ref x1) := H8.at hin8 rfl
  obtain ⟨cl9, Ar9, kc9, S9, M9, H9, G9⟩ := id f6_0
  have hin9 := inb_of S9 (j := (1 : Int32)) (by decide)
  have hat9 : cl9.slots[((1 : Int32)).toNatClampNeg]? = some (.ref y1) := H9.at hin9 rfl
  have pre10 : own_G p e below T5 s₁ _ _ := fun t k => pre4 t (by
    refine st5 _ ?_
    refine XS.dup X5.here hx rfl (hb hby dlof2_48) rfl rfl ?_
    refine XS.aloadN X5.here hx rfl (hb hby dlof2_49) rfl rfl ?_
    refine XS.iconst X5.here hx rfl (hb hby dlof2_50) ?_
    refine X5.aaload hx (j := (0 : Int32)) (v := (.ref x1)) (by rw [e5]; exact Ar8.1) (State.isArrayOf_alike hZ.alike Ar8.2.1) rfl Ar8.2.2 hin8 hat8 (g := (mkF m 51 #[own_r b1, .unset] [(.int (0 : Int32)), (.ref b1), (.ref b5), (.ref b5)])) rfl rfl (hb hby dlof2_51) _ ?_
    refine XS.aloadN X5.here hx rfl (hb hby dlof2_52) rfl rfl ?_
    refine XS.iconst X5.here hx rfl (hb hby dlof2_53) ?_
    refine X5.aaload hx (j := (1 : Int32)) (v := (.ref y1)) (by rw [e5]; exact Ar9.1) (State.isArrayOf_alike hZ.alike Ar9.2.1) rfl Ar9.2.2 hin9 hat9 (g := (mkF m 54 #[own_r b1, .unset] [(.int (1 : Int32)), (.ref b1), (.ref x1), (.ref b5), (.ref b5)])) rfl rfl (hb hby dlof2_54) _ ?_
    exact k)
  obtain ⟨_, _, ⟨T11, L11, kk11, nn11⟩, -, X11, ⟨Lc11, hQ11, l11, y11, z11⟩, st11⟩ := X5.specialBack hx (y := own_y44) rfl hown (mvT hZ (own_h hw 377 rfl)) (mvT hZ (own_h hw 378 rfl)) (mvT hZ (own_h hw 379 rfl)) (by decide) (backOf (W := 1) (rm_l2i l Z a0 hw [] b5 x1 y1 h5 n0 Z5 A5 F5_e0 F5_e1 g_b5) hZ (own_h hw 379 rfl) (own_h hw 362 rfl) (by decide) (by decide)) (g := (mkF m 55 #[own_r b1, .unset] [(.ref y1), (.ref x1), (.ref b5), (.ref b5)])) rfl (by rw [hml]; rfl) (Steps.refl _) (a := b5) (argsL := [(.ref x1), (.ref y1)]) (rest := [(.ref b5)]) (lenOf pd__Ljava_lang_Object_Ljava_lang_Object__V rfl) rfl (by show 2 * 0 + _ ≤ _; exact Nat.le_of_eq rfl) (hb hby dlof2_55) (fun _ _ => ⟨rfl, e5, (by decide : 1 + 0 ≤ _), (by decide : 2 + 0 ≤ _)⟩)
  dsimp only [Pt.U, Pt.locs, Pt.cells, Pt.slots] at X11 l11 y11 z11 st11 hQ11
  subst l11 y11 z11
  obtain ⟨rfl, N11q, Kc11, Fa11, Fb11⟩ := hQ11
  have N11 := Fr.app N0 N11q
  have f12_0 := f6_0.keep Kc11 (own_nm1 ne_b1_b5)
  have f12_1 := own_sta_keep f6_1 Kc11 (by intro x hx; simp only [List.mem_cons, List.not_mem_nil, or_false] at hx; rcases hx with rfl; exact own_ns_exa A5)
  have f12_2 := A5.keep Kc11
  have K13 := K7.trans Kc11 (fun x hx => by cases List.mem_singleton.mp hx; exact (Or.inr sz_b5))
  have Z11 : n0 ≤ T11.heap.size := Nat.le_trans Z5 Kc11.1
  have e11 : T11.heap = T11.heap := rfl
  have pre14 : own_G p e below T11 s₁ _ _ := fun t k => pre10 t (by
    refine st11.trans ?_
    exact k)
  obtain ⟨fs, hr, hrun, hended, hW, hsame⟩ := X11.leave (v := some (.ref b5)) (fun h => by rw [Bd.returns] at h; cases h)
  refine ⟨_, _, pre14 _ ?_, hrun, hended, _, _, rfl, ?_, ⟨_, rfl⟩, hW, hsame.mono (by decide) (by decide)⟩
  · show Steps p.tables e below (T11.setTop (mkF m 58 #[own_r b1, .unset] [(.ref b5)])) _
    jvm_step X11.here [X11.here.top, hx, (hb hby dlof2_58), X11.method', Bd.returns, Value.isRef, FieldType.isReference]
    first | (intro acts; rw [hr _ acts rfl rfl rfl]) | rw [hr _ _ rfl rfl rfl]
    exact Steps.refl _
  · show Q_lof2 Z b1 x1 y1 em k1 h0 n0 _ T11.heap _
    skip
    exact ⟨b5, rfl, N11, K13, f12_2.lt, Or.inr (Or.inr (Or.inl ⟨x1, y1, rfl, f12_2, Fa11, Fb11, Ey.ne EM (by decide)⟩))⟩
theorem dlof3_0 : decode own_k7 0 = .ok (.aload_n 0, 1) := by decide +kernel
theorem dlof3_1 : decode own_k7 1 = .ok (.arraylength, 1) := by decide +kernel
theorem dlof3_2 : decode own_k7 2 = .ok (.tableswitch 57 0 2 #[26, 32, 43], 26) := by decide +kernel
theorem dlof3_59 : decode own_k7 59 = .ok (.aload_n 0, 1) := by decide +kernel
theorem dlof3_60 : decode own_k7 60 = .ok (.invokestatic 109, 3) := by decide +kernel
theorem dlof3_63 : decode own_k7 63 = .ok (.areturn, 1) := by decide +kernel
theorem pd___Ljava_lang_Object__Ljava_util_List_ : parseMethodDescriptor "([Ljava/lang/Object;)Ljava/util/List;" = some ⟨[(.array (.object "java/lang/Object"))], some (.object "java/util/List")⟩ := by decide +kernel
theorem ef_lof3 (m : MethodId) (b1 : Addr) : entryFrame m #[(.ref b1)] 2 = (mkF m 0 #[own_r b1, .unset] []) := by first | (simp [entryFrame, mkF, argsToLocals, Value.category]; done) | rfl
def Q_lof3 (Z : State) (b1 x1 y1 z1 em : Addr) (k1 : ClassId) (h0 : Heap) (n0 : Nat) (v : Option Value) (h : Heap) (L : List Loc) : Prop := ∃ lr : Addr, v = some (.ref lr) ∧ Fr n0 L ∧ Keep h0 h [] ∧ own_Kids Z h em h.size lr [x1, y1, z1]
theorem rm_lof3 (l : Launch) (Z : State) (a0 : Array Value) (hw : own_W a0 Z) (ws : List Jvm.Cond) (b1 x1 y1 z1 em : Addr) (k1 : ClassId) (h0 : Heap) (n0 : Nat) (Z0 : n0 ≤ h0.size) (V1 : Arv Z h0 b1 k1 (.object "java/lang/Object") (3 : Int32) [.ref x1, .ref y1, .ref z1] .null) (Ex : Exa Z h0 x1 "com/example/tributary/tributary/merge/Tree") (Ey : Exa Z h0 y1 "com/example/tributary/tributary/merge/Tree") (Ez : Exa Z h0 z1 "com/example/tributary/tributary/merge/Tree") :
    own_M l Z h0 ws own_y9 jdk_40_method_47_code 2 (some (.object "java/util/List")) (⟨6, 2, 5, 77⟩ : Room) #[(.ref b1)] (Q_lof3 Z b1 x1 y1 z1 em k1 h0 n0) := by
  refine MetFree.of_bodySF (plainFor_of_name pn_lo0) hisR ?_
  intro p e s m args below meth c s₁ Bd hml0 hP hK
  obtain ⟨rfl, hZ, hh⟩ := hP
  have hx := Bd.exec
  have hby := Bd.bytes
  have hml : c.maxLocals = 2 := hml0
  have hown : s.vm.findClass "java/util/List" = some m.cls := findClass_of_methodNamed Bd.named
  have hnm := (name_of_methodNamed Bd.named Bd.method).1
  have X0 : Stand p l e (⟨6, 2, 5, 77⟩ : Room) s m #[(.ref b1)] below meth c s₁ [] 0 0 := Stand.of_body Bd
  have e0 : s₁.heap = h0 := by rw [← hh, Bd.state]; rfl
  have N0 := Fr.nil n0
  have pre0 : ∀ t, Steps p.tables e below (s₁.setTop (mkF m 0 #[own_r b1, .unset] [])) t → Steps p.tables e below (s₁.setTop (entryFrame m #[(.ref b1)] 2)) t := fun t k => castTop (ef_lof3 m b1) k
  have K2 : Keep h0 h0 [] := Keep.refl h0 []
  obtain ⟨cl3, Ar3, kc3, S3, M3, H3, G3⟩ := id V1
  have pre4 : own_G p e below s₁ s₁ _ _ := fun t k => pre0 t (by
    refine XS.aloadN X0.here hx rfl (hb hby dlof3_0) rfl rfl ?_
    refine X0.arraylength hx (cell := cl3) (by rw [e0]; exact Ar3.1) (State.isArrayOf_alike hZ.alike Ar3.2.1) (g := (mkF m 1 #[own_r b1, .unset] [(.ref b1)])) rfl (rest := []) rfl (hb hby dlof3_1) _ ?_
    rw [len_of S3 M3]
    refine XS.tswOut X0.here hx rfl (pc0 := 2) (pc' := 59) rfl (hb hby dlof3_2) (i := (3 : Int32)) rfl (by decide) (by decide) (by decide) ?_
    refine XS.aloadN X0.here hx rfl (hb hby dlof3_59) rfl rfl ?_
    exact k)
  obtain ⟨_, _, ⟨T5, L5, kk5, nn5⟩, -, X5, ⟨Lc5, hQ5, l5, y5, z5⟩, st5⟩ := Jvm.LawKit.callS X0 hx (y := own_y50) hown (mvT hZ (own_h hw 249 rfl)) (mvT hZ (own_h hw 250 rfl)) (mvT hZ (own_h hw 62 rfl)) (mvT hZ (own_h hw 251 rfl)) (by decide) (backOf (W := 0) (rm_lfa l Z a0 hw [] b1 x1 y1 z1 em k1 h0 n0 Z0 V1 Ex Ey Ez) hZ (own_h hw 251 rfl) (own_h hw 62 rfl) (by decide) (by decide)) (g := (mkF m 60 #[own_r b1, .unset] [(.ref b1)])) rfl (by rw [hml]; rfl) (argsL := [(.ref b1)]) (rest := []) (lenOf pd___Ljava_lang_Object__Ljava_util_List_ rfl) rfl (by show 2 * 0 + _ ≤ _; exact Nat.le_of_eq rfl) (hb hby dlof3_60) (fun _ _ => ⟨rfl, e0, (by decide : 0 + 2 ≤ _), (by decide : 0 + 5 ≤ _)⟩)
  dsimp only [Pt.U, Pt.locs, Pt.cells, Pt.slots] at X5 l5 y5 z5 st5 hQ5
  subst l5 y5 z5
  obtain ⟨lr5, rfl, N5q, Kc5, Kd5⟩ := hQ5
  have N5 := Fr.app N0 N5q
  have f6_0 := V1.keep Kc5 (by simp)
  have K7 := K2.trans Kc5 (fun x hx => by cases hx)
  have Z5 : n0 ≤ T5.heap.size := Nat.le_trans Z0 Kc5.1
  have e5 : T5.heap = T5.heap := rfl
  have pre8 : own_G p e below T5 s₁ _ _ := fun t k => pre4 t (by
    refine st5 _ ?_
    exact k)
  obtain ⟨fs, hr, hrun, hended, hW, hsame⟩ := X5.leave (v := some (.ref lr5)) (fun h => by rw [Bd.returns] at h; cases h)
  refine ⟨_, _, pre8 _ ?_, hrun, hended, _, _, rfl, ?_, ⟨_, rfl⟩, hW, hsame.mono (by decide) (by decide)⟩
  · show Steps p.tables e below (T5.setTop (mkF m 63 #[own_r b1, .unset] [(.ref lr5)])) _
    jvm_step X5.here [X5.here.top, hx, (hb hby dlof3_63), X5.method', Bd.returns, Value.isRef, FieldType.isReference]
    first | (intro acts; rw [hr _ acts rfl rfl rfl]) | rw [hr _ _ rfl rfl rfl]
    exact Steps.refl _
  · show Q_lof3 Z b1 x1 y1 z1 em k1 h0 n0 _ T5.heap _
    skip
    exact ⟨lr5, rfl, N5, K7, Kd5⟩
theorem dlcp_0 : decode own_k18 0 = .ok (.aload_n 0, 1) := by decide +kernel
theorem dlcp_1 : decode own_k18 1 = .ok (.instanceof 10, 3) := by decide +kernel
theorem dlcp_4 : decode own_k18 4 = .ok (.ifCond .ne 22, 3) := by decide +kernel
theorem dlcp_7 : decode own_k18 7 = .ok (.aload_n 0, 1) := by decide +kernel
theorem dlcp_8 : decode own_k18 8 = .ok (.instanceof 12, 3) := by decide +kernel
theorem dlcp_11 : decode own_k18 11 = .ok (.ifCond .eq 20, 3) := by decide +kernel
theorem dlcp_31 : decode own_k18 31 = .ok (.aload_n 0, 1) := by decide +kernel
theorem dlcp_32 : decode own_k18 32 = .ok (.invokeinterface 20 1, 5) := by decide +kernel
theorem dlcp_37 : decode own_k18 37 = .ok (.ifCond .eq 7, 3) := by decide +kernel
theorem dlcp_40 : decode own_k18 40 = .ok (.invokestatic 26, 3) := by decide +kernel
theorem dlcp_43 : decode own_k18 43 = .ok (.areturn, 1) := by decide +kernel
theorem dlcp_44 : decode own_k18 44 = .ok (.aload_n 0, 1) := by decide +kernel
theorem dlcp_45 : decode own_k18 45 = .ok (.invokeinterface 30 1, 5) := by decide +kernel
theorem dlcp_50 : decode own_k18 50 = .ok (.invokestatic 34, 3) := by decide +kernel
theorem dlcp_53 : decode own_k18 53 = .ok (.areturn, 1) := by decide +kernel
theorem pd___Z : parseMethodDescriptor "()Z" = some ⟨[], some .boolean⟩ := by decide +kernel
theorem pd___Ljava_util_List_ : parseMethodDescriptor "()Ljava/util/List;" = some ⟨[], some (.object "java/util/List")⟩ := by decide +kernel
theorem ef_lcp (m : MethodId) (a1 : Addr) : entryFrame m #[(.ref a1)] 2 = (mkF m 0 #[own_r a1, .unset] []) := by first | (simp [entryFrame, mkF, argsToLocals, Value.category]; done) | rfl
def Q_lcp (Z : State) (a1 em el mr de : Addr) (xs : List Addr) (h0 : Heap) (n0 : Nat) (v : Option Value) (h : Heap) (L : List Loc) : Prop := ∃ lr : Addr, v = some (.ref lr) ∧ Fr n0 L ∧ Keep h0 h [] ∧ own_Kids Z h em h.size lr xs
theorem rm_lcp (l : Launch) (Z : State) (a0 : Array Value) (hw : own_W a0 Z) (ws : List Jvm.Cond) (a1 em el mr de : Addr) (xs : List Addr) (h0 : Heap) (n0 : Nat) (Z0 : n0 ≤ h0.size) (SEM : Sta Z h0 "java/util/ImmutableCollections" "EMPTY" "Ljava/lang/Object;" (.ref em)) (EM : Exa Z h0 em "java/lang/Object") (SEL : Sta Z h0 "java/util/ImmutableCollections" "EMPTY_LIST" "Ljava/util/ImmutableCollections$ListN;" (.ref el)) (KE : own_Kids Z h0 em h0.size el []) (M1 : Mir Z "[Ljava/lang/Object;" mr) (A1 : own_AL Z h0 de a1 xs) (HX : ∀ x ∈ xs, Exa Z h0 x "com/example/tributary/tributary/merge/Tree") (h3 : xs.length ≤ 3)  :
    own_M l Z h0 ws own_y51 jdk_56_method_3_code 2 (some (.object "java/util/List")) (⟨7, 3, 8, 90⟩ : Room) #[(.ref a1)] (Q_lcp Z a1 em el mr de xs h0 n0) := by
  refine MetFree.of_bodySF (plainFor_of_name pn_lfa) hisR ?_
  intro p e s m args below meth c s₁ Bd hml0 hP hK
  obtain ⟨rfl, hZ, hh⟩ := hP
  have hx := Bd.exec
  have hby := Bd.bytes
  have hml : c.maxLocals = 2 := hml0
  have hown : s.vm.findClass "java/util/ImmutableCollections" = some m.cls := findClass_of_methodNamed Bd.named
  have hnm := (name_of_methodNamed Bd.named Bd.method).1
  have X0 : Stand p l e (⟨7, 3, 8, 90⟩ : Room) s m #[(.ref a1)] below meth c s₁ [] 0 0 := Stand.of_body Bd
  have e0 : s₁.heap = h0 := by rw [← hh, Bd.state]; rfl
  have N0 := Fr.nil n0
  have pre0 : ∀ t, Steps p.tables e below (s₁.setTop (mkF m 0 #[own_r a1, .unset] [])) t → Steps p.tables e below (s₁.setTop (entryFrame m #[(.ref a1)] 2)) t := fun t k => castTop (ef_lcp m a1) k
  obtain ⟨E1, -, F3, D1⟩ := id A1
  have K2 : Keep h0 h0 [] := Keep.refl h0 []
  have pre3 : own_G p e below s₁ s₁ _ _ := fun t k => pre0 t (by
    refine XS.aloadN X0.here hx rfl (hb hby dlcp_0) rfl rfl ?_
    exact k)
  obtain ⟨T4, X4, e4, st4⟩ := instNo X0 hx hZ hown (own_h hw 64 rfl) e0 E1 (own_no (own_h hw 65 rfl) (own_h hw 361 rfl) (NS.step (own_h hw 65 rfl) (NS.step (own_h hw 66 rfl) (NS.step (own_h hw 67 rfl) (own_root (own_h hw 68 rfl) (own_h hw 361 rfl) (by decide)) (by decide)) (by decide)) (by decide)) (by decide)) (g := (mkF m 1 #[own_r a1, .unset] [(.ref a1)])) rfl rfl (hb hby dlcp_1)
  have pre5 : own_G p e below T4 s₁ _ _ := fun t k => pre3 t (by
    refine st4 _ ?_
    refine XS.ifNo X4.here hx rfl (hb hby dlcp_4) rfl (XT.i0_ne_f rfl) ?_
    refine XS.aloadN X4.here hx rfl (hb hby dlcp_7) rfl rfl ?_
    exact k)
  obtain ⟨T6, X6, e6, st6⟩ := instNo X4 hx hZ hown (own_h hw 69 rfl) e4 E1 (own_no (own_h hw 65 rfl) (own_h hw 257 rfl) (NS.step (own_h hw 65 rfl) (NS.step (own_h hw 66 rfl) (NS.step (own_h hw 67 rfl) (own_root (own_h hw 68 rfl) (own_h hw 257 rfl) (by decide)) (by decide)) (by decide)) (by decide)) (by decide)) (g := (mkF m 8 #[own_r a1, .unset] [(.ref a1)])) rfl rfl (hb hby dlcp_8)
  have pre7 : own_G p e below T6 s₁ _ _ := fun t k => pre5 t (by
    refine st6 _ ?_
    refine XS.ifYes X6.here hx rfl (pc0 := 11) (pc' := 31) rfl (hb hby dlcp_11) rfl (XT.i0_eq_t rfl) (by decide) (by decide) ?_
    refine XS.aloadN X6.here hx rfl (hb hby dlcp_31) rfl rfl ?_
    exact k)
  obtain ⟨cq8, kq8, q8a, q8b, q8c⟩ := isOf hZ e6 E1
  obtain ⟨_, _, ⟨T8, L8, kk8, nn8⟩, -, X8, ⟨Lc8, hQ8, l8, y8, z8⟩, st8⟩ := X6.interfaceBack hx (xi := (⟨"java/util/Collection", "isEmpty", "()Z"⟩ : MethodName)) (y := own_y7) hown (mvT hZ (own_h hw 70 rfl)) (mvT hZ (own_h hw 71 rfl)) (mvT hZ (own_h hw 72 rfl)) (mvT hZ (own_h hw 73 rfl)) (mvT hZ (own_h hw 74 rfl)) (mvT hZ (own_h hw 75 rfl)) (mvT hZ (own_h hw 76 rfl)) (mvT hZ (own_h hw 77 rfl)) (by decide) (backOf (W := 0) (rm_emp l Z a0 hw [] a1 (Int32.ofNat xs.length) h0 n0 Z0 F3) hZ (own_h hw 78 rfl) (own_h hw 3 rfl) (by decide) (by decide)) q8a q8b q8c (g := (mkF m 32 #[own_r a1, .unset] [(.ref a1)])) rfl (by rw [hml]; rfl) (Steps.refl _) (argsL := []) (rest := []) (lenOf pd___Z rfl) rfl (by show 2 * 0 + _ ≤ _; exact Nat.le_of_eq rfl) (hb hby dlcp_32) (fun _ _ => ⟨rfl, e6, (by decide : 0 + 0 ≤ _), (by decide : 0 + 0 ≤ _)⟩)
  dsimp only [Pt.U, Pt.locs, Pt.cells, Pt.slots] at X8 l8 y8 z8 st8 hQ8
  subst l8 y8 z8
  obtain ⟨rfl, N8q, eq8⟩ := hQ8
  have N8 := Fr.app N0 N8q
  have pre9 : own_G p e below T8 s₁ _ _ := fun t k => pre7 t (by
    refine st8.trans ?_
    exact k)
  rcases D1 with ⟨hxs, F2⟩ | ⟨hxs, b1, k1, -, F2, V1, O1, EB⟩
  · have hem : own_em (Int32.ofNat xs.length) = 1 := by rw [hxs]; decide
    have pre10 : own_G p e below T8 s₁ _ _ := fun t k => pre9 t (by
      show Steps p.tables e below (T8.setTop (mkF m 37 #[own_r a1, .unset] [(.int (own_em (Int32.ofNat xs.length)))])) _
      rw [hem]
      refine XS.ifNo X8.here hx rfl (hb hby dlcp_37) rfl (XT.i0_eq_f (by decide)) ?_
      exact k)
    obtain ⟨_, _, ⟨T11, L11, kk11, nn11⟩, -, X11, ⟨Lc11, hQ11, l11, y11, z11⟩, st11⟩ := Jvm.LawKit.callS X8 hx (y := own_y46) hown (mvT hZ (own_h hw 81 rfl)) (mvT hZ (own_h hw 82 rfl)) (mvT hZ (own_h hw 58 rfl)) (mvT hZ (own_h hw 83 rfl)) (by decide) (backOf (W := 0) (rm_lo0 l Z a0 hw [] el h0 n0 Z0 SEL) hZ (own_h hw 83 rfl) (own_h hw 58 rfl) (by decide) (by decide)) (g := (mkF m 40 #[own_r a1, .unset] [])) rfl (by rw [hml]; rfl) (argsL := []) (rest := []) (lenOf pd___Ljava_util_List_ rfl) rfl (by show 2 * 0 + _ ≤ _; exact Nat.le_of_eq rfl) (hb hby dlcp_40) (fun _ _ => ⟨rfl, eq8, (by decide : 0 + 0 ≤ _), (by decide : 0 + 0 ≤ _)⟩)
    dsimp only [Pt.U, Pt.locs, Pt.cells, Pt.slots] at X11 l11 y11 z11 st11 hQ11
    subst l11 y11 z11
    obtain ⟨rfl, N11q, eq11⟩ := hQ11
    have N11 := Fr.app N8 N11q
    have pre12 : own_G p e below T11 s₁ _ _ := fun t k => pre10 t (by
      refine st11 _ ?_
      exact k)
    obtain ⟨fs, hr, hrun, hended, hW, hsame⟩ := X11.leave (v := some (.ref el)) (fun h => by rw [Bd.returns] at h; cases h)
    refine ⟨_, _, pre12 _ ?_, hrun, hended, _, _, rfl, ?_, ⟨_, rfl⟩, hW, hsame.mono (by decide) (by decide)⟩
    · show Steps p.tables e below (T11.setTop (mkF m 43 #[own_r a1, .unset] [(.ref el)])) _
      jvm_step X11.here [X11.here.top, hx, (hb hby dlcp_43), X11.method', Bd.returns, Value.isRef, FieldType.isReference]
      first | (intro acts; rw [hr _ acts rfl rfl rfl]) | rw [hr _ _ rfl rfl rfl]
      exact Steps.refl _
    · show Q_lcp Z a1 em el mr de xs h0 n0 _ T11.heap _
      rw [eq11]
      exact ⟨el, rfl, N11, Keep.refl _ _, by rw [hxs]; exact KE⟩
  · have hem := own_em0 hxs h3
    have pre13 : own_G p e below T8 s₁ _ _ := fun t k => pre9 t (by
      show Steps p.tables e below (T8.setTop (mkF m 37 #[own_r a1, .unset] [(.int (own_em (Int32.ofNat xs.length)))])) _
      rw [hem]
      refine XS.ifYes X8.here hx rfl (pc0 := 37) (pc' := 44) rfl (hb hby dlcp_37) rfl (XT.i0_eq_t rfl) (by decide) (by decide) ?_
      refine XS.aloadN X8.here hx rfl (hb hby dlcp_44) rfl rfl ?_
      exact k)
    obtain ⟨cq14, kq14, q14a, q14b, q14c⟩ := isOf hZ eq8 E1
    obtain ⟨_, _, ⟨T14, L14, kk14, nn14⟩, -, X14, ⟨Lc14, hQ14, l14, y14, z14⟩, st14⟩ := X8.interfaceBack hx (xi := (⟨"java/util/Collection", "toArray", "()[Ljava/lang/Object;"⟩ : MethodName)) (y := own_y49) hown (mvT hZ (own_h hw 216 rfl)) (mvT hZ (own_h hw 217 rfl)) (mvT hZ (own_h hw 218 rfl)) (mvT hZ (own_h hw 219 rfl)) (mvT hZ (own_h hw 220 rfl)) (mvT hZ (own_h hw 221 rfl)) (mvT hZ (own_h hw 222 rfl)) (mvT hZ (own_h hw 77 rfl)) (by decide) (backOf (W := 0) (rm_tar l Z a0 hw [] a1 b1 mr _ k1 xs h0 n0 Z0 F2 F3 M1 V1 EB HX rfl h3) hZ (own_h hw 223 rfl) (own_h hw 3 rfl) (by decide) (by decide)) q14a q14b q14c (g := (mkF m 45 #[own_r a1, .unset] [(.ref a1)])) rfl (by rw [hml]; rfl) (Steps.refl _) (argsL := []) (rest := []) (lenOf pd____Ljava_lang_Object_ rfl) rfl (by show 2 * 0 + _ ≤ _; exact Nat.le_of_eq rfl) (hb hby dlcp_45) (fun _ _ => ⟨rfl, eq8, (by decide : 0 + 1 ≤ _), (by decide : 0 + 3 ≤ _)⟩)
    dsimp only [Pt.U, Pt.locs, Pt.cells, Pt.slots] at X14 l14 y14 z14 st14 hQ14
    subst l14 y14 z14
    obtain ⟨br14, kr14, rfl, N14q, Kc14, g_br14, sr14, Vr14⟩ := hQ14
    have N14 := Fr.app N8 N14q
    have f15_0 := E1.keep Kc14
    have K16 := K2.trans Kc14 (fun x hx => by cases hx)
    have Z14 : n0 ≤ T14.heap.size := Nat.le_trans Z0 Kc14.1
    have e14 : T14.heap = T14.heap := rfl
    have pre17 : own_G p e below T14 s₁ _ _ := fun t k => pre13 t (by
      refine st14.trans ?_
      exact k)
    rcases own_c3 hxs h3 with ⟨x1, hx1⟩ | ⟨x1, y1, hx1⟩ | ⟨x1, y1, z1, hx1⟩
    · have Vs : Arv Z T14.heap br14 kr14 (.object "java/lang/Object") (1 : Int32) [.ref x1] .null := by have q := Vr14; rw [hx1] at q; exact q
      have Ex := (HX x1 (by rw [hx1]; simp)).keep K16
      obtain ⟨_, _, ⟨T18, L18, kk18, nn18⟩, -, X18, ⟨Lc18, hQ18, l18, y18, z18⟩, st18⟩ := Jvm.LawKit.callS X14 hx (y := own_y9) hown (mvT hZ (own_h hw 246 rfl)) (mvT hZ (own_h hw 247 rfl)) (mvT hZ (own_h hw 58 rfl)) (mvT hZ (own_h hw 248 rfl)) (by decide) (backOf (W := 0) (rm_lof1 l Z a0 hw [] br14 x1 em kr14 T14.heap n0 Z14 (own_sta_keep SEM K16 (by intro x hx; cases hx)) (EM.keep K16) Vs Ex) hZ (own_h hw 248 rfl) (own_h hw 58 rfl) (by decide) (by decide)) (g := (mkF m 50 #[own_r a1, .unset] [(.ref br14)])) rfl (by rw [hml]; rfl) (argsL := [(.ref br14)]) (rest := []) (lenOf pd___Ljava_lang_Object__Ljava_util_List_ rfl) rfl (by show 2 * 0 + _ ≤ _; exact Nat.le_of_eq rfl) (hb hby dlcp_50) (fun _ _ => ⟨rfl, e14, (by decide : 1 + 1 ≤ _), (by decide : 3 + 2 ≤ _)⟩)
      dsimp only [Pt.U, Pt.locs, Pt.cells, Pt.slots] at X18 l18 y18 z18 st18 hQ18
      subst l18 y18 z18
      obtain ⟨lr18, rfl, N18q, Kc18, Kd18⟩ := hQ18
      have N18 := Fr.app N14 N18q
      have f19_0 := f15_0.keep Kc18
      have K20 := K16.trans Kc18 (fun x hx => by cases hx)
      have Z18 : n0 ≤ T18.heap.size := Nat.le_trans Z14 Kc18.1
      have e18 : T18.heap = T18.heap := rfl
      have pre21 : own_G p e below T18 s₁ _ _ := fun t k => pre17 t (by
        refine st18 _ ?_
        exact k)
      obtain ⟨fs, hr, hrun, hended, hW, hsame⟩ := X18.leave (v := some (.ref lr18)) (fun h => by rw [Bd.returns] at h; cases h)
      refine ⟨_, _, pre21 _ ?_, hrun, hended, _, _, rfl, ?_, ⟨_, rfl⟩, hW, hsame.mono (by decide) (by decide)⟩
      · show Steps p.tables e below (T18.setTop (mkF m 53 #[own_r a1, .unset] [(.ref lr18)])) _
        jvm_step X18.here [X18.here.top, hx, (hb hby dlcp_53), X18.method', Bd.returns, Value.isRef, FieldType.isReference]
        first | (intro acts; rw [hr _ acts rfl rfl rfl]) | rw [hr _ _ rfl rfl rfl]
        exact Steps.refl _
      · show Q_lcp Z a1 em el mr de xs h0 n0 _ T18.heap _
        skip
        exact ⟨lr18, rfl, N18, K20, by rw [hx1]; exact Kd18⟩
    · have Vs : Arv Z T14.heap br14 kr14 (.object "java/lang/Object") (2 : Int32) [.ref x1, .ref y1] .null := by have q := Vr14; rw [hx1] at q; exact q
      have Ex := (HX x1 (by rw [hx1]; simp)).keep K16
      have Ey := (HX y1 (by rw [hx1]; simp)).keep K16
      obtain ⟨_, _, ⟨T22, L22, kk22, nn22⟩, -, X22, ⟨Lc22, hQ22, l22, y22, z22⟩, st22⟩ := Jvm.LawKit.callS X14 hx (y := own_y9) hown (mvT hZ (own_h hw 246 rfl)) (mvT hZ (own_h hw 247 rfl)) (mvT hZ (own_h hw 58 rfl)) (mvT hZ (own_h hw 248 rfl)) (by decide) (backOf (W := 0) (rm_lof2 l Z a0 hw [] br14 x1 y1 em kr14 T14.heap n0 Z14 (own_sta_keep SEM K16 (by intro x hx; cases hx)) (EM.keep K16) Vs Ex Ey) hZ (own_h hw 248 rfl) (own_h hw 58 rfl) (by decide) (by decide)) (g := (mkF m 50 #[own_r a1, .unset] [(.ref br14)])) rfl (by rw [hml]; rfl) (argsL := [(.ref br14)]) (rest := []) (lenOf pd___Ljava_lang_Object__Ljava_util_List_ rfl) rfl (by show 2 * 0 + _ ≤ _; exact Nat.le_of_eq rfl) (hb hby dlcp_50) (fun _ _ => ⟨rfl, e14, (by decide : 1 + 1 ≤ _), (by decide : 3 + 2 ≤ _)⟩)
      dsimp only [Pt.U, Pt.locs, Pt.cells, Pt.slots] at X22 l22 y22 z22 st22 hQ22
      subst l22 y22 z22
      obtain ⟨lr22, rfl, N22q, Kc22, Kd22⟩ := hQ22
      have N22 := Fr.app N14 N22q
      have f23_0 := f15_0.keep Kc22
      have K24 := K16.trans Kc22 (fun x hx => by cases hx)
      have Z22 : n0 ≤ T22.heap.size := Nat.le_trans Z14 Kc22.1
      have e22 : T22.heap = T22.heap := rfl
      have pre25 : own_G p e below T22 s₁ _ _ := fun t k => pre17 t (by
        refine st22 _ ?_
        exact k)
      obtain ⟨fs, hr, hrun, hended, hW, hsame⟩ := X22.leave (v := some (.ref lr22)) (fun h => by rw [Bd.returns] at h; cases h)
      refine ⟨_, _, pre25 _ ?_, hrun, hended, _, _, rfl, ?_, ⟨_, rfl⟩, hW, hsame.mono (by decide) (by decide)⟩
      · show Steps p.tables e below (T22.setTop (mkF m 53 #[own_r a1, .unset] [(.ref lr22)])) _
        jvm_step X22.here [X22.here.top, hx, (hb hby dlcp_53), X22.method', Bd.returns, Value.isRef, FieldType.isReference]
        first | (intro acts; rw [hr _ acts rfl rfl rfl]) | rw [hr _ _ rfl rfl rfl]
        exact Steps.refl _
      · show Q_lcp Z a1 em el mr de xs h0 n0 _ T22.heap _
        skip
        exact ⟨lr22, rfl, N22, K24, by rw [hx1]; exact Kd22⟩
    · have Vs : Arv Z T14.heap br14 kr14 (.object "java/lang/Object") (3 : Int32) [.ref x1, .ref y1, .ref z1] .null := by have q := Vr14; rw [hx1] at q; exact q
      have Ex := (HX x1 (by rw [hx1]; simp)).keep K16
      have Ey := (HX y1 (by rw [hx1]; simp)).keep K16
      have Ez := (HX z1 (by rw [hx1]; simp)).keep K16
      obtain ⟨_, _, ⟨T26, L26, kk26, nn26⟩, -, X26, ⟨Lc26, hQ26, l26, y26, z26⟩, st26⟩ := Jvm.LawKit.callS X14 hx (y := own_y9) hown (mvT hZ (own_h hw 246 rfl)) (mvT hZ (own_h hw 247 rfl)) (mvT hZ (own_h hw 58 rfl)) (mvT hZ (own_h hw 248 rfl)) (by decide) (backOf (W := 0) (rm_lof3 l Z a0 hw [] br14 x1 y1 z1 em kr14 T14.heap n0 Z14 Vs Ex Ey Ez) hZ (own_h hw 248 rfl) (own_h hw 58 rfl) (by decide) (by decide)) (g := (mkF m 50 #[own_r a1, .unset] [(.ref br14)])) rfl (by rw [hml]; rfl) (argsL := [(.ref br14)]) (rest := []) (lenOf pd___Ljava_lang_Object__Ljava_util_List_ rfl) rfl (by show 2 * 0 + _ ≤ _; exact Nat.le_of_eq rfl) (hb hby dlcp_50) (fun _ _ => ⟨rfl, e14, (by decide : 1 + 2 ≤ _), (by decide : 3 + 5 ≤ _)⟩)
      dsimp only [Pt.U, Pt.locs, Pt.cells, Pt.slots] at X26 l26 y26 z26 st26 hQ26
      subst l26 y26 z26
      obtain ⟨lr26, rfl, N26q, Kc26, Kd26⟩ := hQ26
      have N26 := Fr.app N14 N26q
      have f27_0 := f15_0.keep Kc26
      have K28 := K16.trans Kc26 (fun x hx => by cases hx)
      have Z26 : n0 ≤ T26.heap.size := Nat.le_trans Z14 Kc26.1
      have e26 : T26.heap = T26.heap := rfl
      have pre29 : own_G p e below T26 s₁ _ _ := fun t k => pre17 t (by
        refine st26 _ ?_
        exact k)
      obtain ⟨fs, hr, hrun, hended, hW, hsame⟩ := X26.leave (v := some (.ref lr26)) (fun h => by rw [Bd.returns] at h; cases h)
      refine ⟨_, _, pre29 _ ?_, hrun, hended, _, _, rfl, ?_, ⟨_, rfl⟩, hW, hsame.mono (by decide) (by decide)⟩
      · show Steps p.tables e below (T26.setTop (mkF m 53 #[own_r a1, .unset] [(.ref lr26)])) _
        jvm_step X26.here [X26.here.top, hx, (hb hby dlcp_53), X26.method', Bd.returns, Value.isRef, FieldType.isReference]
        first | (intro acts; rw [hr _ acts rfl rfl rfl]) | rw [hr _ _ rfl rfl rfl]
        exact Steps.refl _
      · show Q_lcp Z a1 em el mr de xs h0 n0 _ T26.heap _
        skip
        exact ⟨lr26, rfl, N26, K28, by rw [hx1]; exact Kd26⟩
theorem dcpo_0 : decode jdk_40_method_48_code 0 = .ok (.aload_n 0, 1) := by decide +kernel
theorem dcpo_1 : decode jdk_40_method_48_code 1 = .ok (.invokestatic 112, 3) := by decide +kernel
theorem dcpo_4 : decode jdk_40_method_48_code 4 = .ok (.areturn, 1) := by decide +kernel
theorem pd__Ljava_util_Collection__Ljava_util_List_ : parseMethodDescriptor "(Ljava/util/Collection;)Ljava/util/List;" = some ⟨[(.object "java/util/Collection")], some (.object "java/util/List")⟩ := by decide +kernel
theorem ef_cpo (m : MethodId) (a1 : Addr) : entryFrame m #[(.ref a1)] 1 = (mkF m 0 #[own_r a1] []) := by first | (simp [entryFrame, mkF, argsToLocals, Value.category]; done) | rfl
def Q_cpo (Z : State) (a1 em el mr de : Addr) (xs : List Addr) (h0 : Heap) (n0 : Nat) (v : Option Value) (h : Heap) (L : List Loc) : Prop := ∃ lr : Addr, v = some (.ref lr) ∧ Fr n0 L ∧ Keep h0 h [] ∧ own_Kids Z h em h.size lr xs
theorem rm_cpo (l : Launch) (Z : State) (a0 : Array Value) (hw : own_W a0 Z) (ws : List Jvm.Cond) (a1 em el mr de : Addr) (xs : List Addr) (h0 : Heap) (n0 : Nat) (Z0 : n0 ≤ h0.size) (SEM : Sta Z h0 "java/util/ImmutableCollections" "EMPTY" "Ljava/lang/Object;" (.ref em)) (EM : Exa Z h0 em "java/lang/Object") (SEL : Sta Z h0 "java/util/ImmutableCollections" "EMPTY_LIST" "Ljava/util/ImmutableCollections$ListN;" (.ref el)) (KE : own_Kids Z h0 em h0.size el []) (M1 : Mir Z "[Ljava/lang/Object;" mr) (A1 : own_AL Z h0 de a1 xs) (HX : ∀ x ∈ xs, Exa Z h0 x "com/example/tributary/tributary/merge/Tree") (h3 : xs.length ≤ 3)  :
    own_M l Z h0 ws own_y20 jdk_40_method_48_code 1 (some (.object "java/util/List")) (⟨8, 3, 8, 103⟩ : Room) #[(.ref a1)] (Q_cpo Z a1 em el mr de xs h0 n0) := by
  refine MetFree.of_bodySF (plainFor_of_name pn_lo0) hisR ?_
  intro p e s m args below meth c s₁ Bd hml0 hP hK
  obtain ⟨rfl, hZ, hh⟩ := hP
  have hx := Bd.exec
  have hby := Bd.bytes
  have hml : c.maxLocals = 1 := hml0
  have hown : s.vm.findClass "java/util/List" = some m.cls := findClass_of_methodNamed Bd.named
  have hnm := (name_of_methodNamed Bd.named Bd.method).1
  have X0 : Stand p l e (⟨8, 3, 8, 103⟩ : Room) s m #[(.ref a1)] below meth c s₁ [] 0 0 := Stand.of_body Bd
  have e0 : s₁.heap = h0 := by rw [← hh, Bd.state]; rfl
  have N0 := Fr.nil n0
  have pre0 : ∀ t, Steps p.tables e below (s₁.setTop (mkF m 0 #[own_r a1] [])) t → Steps p.tables e below (s₁.setTop (entryFrame m #[(.ref a1)] 1)) t := fun t k => castTop (ef_cpo m a1) k
  have K2 : Keep h0 h0 [] := Keep.refl h0 []
  have pre3 : own_G p e below s₁ s₁ _ _ := fun t k => pre0 t (by
    refine XS.aloadN X0.here hx rfl (hb hby dcpo_0) rfl rfl ?_
    exact k)
  obtain ⟨_, _, ⟨T4, L4, kk4, nn4⟩, -, X4, ⟨Lc4, hQ4, l4, y4, z4⟩, st4⟩ := Jvm.LawKit.callS X0 hx (y := own_y51) hown (mvT hZ (own_h hw 60 rfl)) (mvT hZ (own_h hw 61 rfl)) (mvT hZ (own_h hw 62 rfl)) (mvT hZ (own_h hw 63 rfl)) (by decide) (backOf (W := 0) (rm_lcp l Z a0 hw [] a1 em el mr de xs h0 n0 Z0 SEM EM SEL KE M1 A1 HX h3) hZ (own_h hw 63 rfl) (own_h hw 62 rfl) (by decide) (by decide)) (g := (mkF m 1 #[own_r a1] [(.ref a1)])) rfl (by rw [hml]; rfl) (argsL := [(.ref a1)]) (rest := []) (lenOf pd__Ljava_util_Collection__Ljava_util_List_ rfl) rfl (by show 2 * 0 + _ ≤ _; exact Nat.le_of_eq rfl) (hb hby dcpo_1) (fun _ _ => ⟨rfl, e0, (by decide : 0 + 3 ≤ _), (by decide : 0 + 8 ≤ _)⟩)
  dsimp only [Pt.U, Pt.locs, Pt.cells, Pt.slots] at X4 l4 y4 z4 st4 hQ4
  subst l4 y4 z4
  obtain ⟨lr4, rfl, N4q, Kc4, Kd4⟩ := hQ4
  have N4 := Fr.app N0 N4q
  have K6 := K2.trans Kc4 (fun x hx => by cases hx)
  have Z4 : n0 ≤ T4.heap.size := Nat.le_trans Z0 Kc4.1
  have e4 : T4.heap = T4.heap := rfl
  have pre7 : own_G p e below T4 s₁ _ _ := fun t k => pre3 t (by
    refine st4 _ ?_
    exact k)
  obtain ⟨fs, hr, hrun, hended, hW, hsame⟩ := X4.leave (v := some (.ref lr4)) (fun h => by rw [Bd.returns] at h; cases h)
  refine ⟨_, _, pre7 _ ?_, hrun, hended, _, _, rfl, ?_, ⟨_, rfl⟩, hW, hsame.mono (by decide) (by decide)⟩
  · show Steps p.tables e below (T4.setTop (mkF m 4 #[own_r a1] [(.ref lr4)])) _
    jvm_step X4.here [X4.here.top, hx, (hb hby dcpo_4), X4.method', Bd.returns, Value.isRef, FieldType.isReference]
    first | (intro acts; rw [hr _ acts rfl rfl rfl]) | rw [hr _ _ rfl rfl rfl]
    exact Steps.refl _
  · show Q_cpo Z a1 em el mr de xs h0 n0 _ T4.heap _
    skip
    exact ⟨lr4, rfl, N4, K6, Kd4⟩
theorem dpcr_0 : decode own_k19 0 = .ok (.iload_n 0, 1) := by decide +kernel
theorem dpcr_1 : decode own_k19 1 = .ok (.ifCond .lt 8, 3) := by decide +kernel
theorem dpcr_4 : decode own_k19 4 = .ok (.iload_n 0, 1) := by decide +kernel
theorem dpcr_5 : decode own_k19 5 = .ok (.iload_n 1, 1) := by decide +kernel
theorem dpcr_6 : decode own_k19 6 = .ok (.if_icmp .lt 10, 3) := by decide +kernel
theorem dpcr_16 : decode own_k19 16 = .ok (.iload_n 0, 1) := by decide +kernel
theorem dpcr_17 : decode own_k19 17 = .ok (.ireturn, 1) := by decide +kernel
theorem ef_pcr (m : MethodId) (i : Int32) (n : Int32) (xv : Addr) : entryFrame m #[(.int i), (.int n), (.ref xv)] 3 = (mkF m 0 #[own_i i, own_i n, own_r xv] []) := by first | (simp [entryFrame, mkF, argsToLocals, Value.category]; done) | rfl
def Q_pcr (Z : State) (i n : Int32) (xv : Addr) (h0 : Heap) (n0 : Nat) (v : Option Value) (h : Heap) (L : List Loc) : Prop := v = some (.int i) ∧ Fr n0 L ∧ h = h0
theorem rm_pcr (l : Launch) (Z : State) (a0 : Array Value) (hw : own_W a0 Z) (ws : List Jvm.Cond) (i n : Int32) (xv : Addr) (h0 : Heap) (n0 : Nat) (Z0 : n0 ≤ h0.size) (hi : ¬ i < 0) (hn : i < n) :
    own_M l Z h0 ws own_y13 jdk_41_method_11_code 3 (some .int) (⟨0, 0, 0, 0⟩ : Room) #[(.int i), (.int n), (.ref xv)] (Q_pcr Z i n xv h0 n0) := by
  refine MetFree.of_bodySF (plainFor_of_name pn_pcn) hisR ?_
  intro p e s m args below meth c s₁ Bd hml0 hP hK
  obtain ⟨rfl, hZ, hh⟩ := hP
  have hx := Bd.exec
  have hby := Bd.bytes
  have hml : c.maxLocals = 3 := hml0
  have hown : s.vm.findClass "jdk/internal/util/Preconditions" = some m.cls := findClass_of_methodNamed Bd.named
  have hnm := (name_of_methodNamed Bd.named Bd.method).1
  have X0 : Stand p l e (⟨0, 0, 0, 0⟩ : Room) s m #[(.int i), (.int n), (.ref xv)] below meth c s₁ [] 0 0 := Stand.of_body Bd
  have e0 : s₁.heap = h0 := by rw [← hh, Bd.state]; rfl
  have N0 := Fr.nil n0
  have pre0 : ∀ t, Steps p.tables e below (s₁.setTop (mkF m 0 #[own_i i, own_i n, own_r xv] [])) t → Steps p.tables e below (s₁.setTop (entryFrame m #[(.int i), (.int n), (.ref xv)] 3)) t := fun t k => castTop (ef_pcr m i n xv) k
  have pre2 : own_G p e below s₁ s₁ _ _ := fun t k => pre0 t (by
    refine XS.iloadN X0.here hx rfl (hb hby dpcr_0) rfl ?_
    refine XS.ifNo X0.here hx rfl (hb hby dpcr_1) rfl (XT.i0_lt_f hi) ?_
    refine XS.iloadN X0.here hx rfl (hb hby dpcr_4) rfl ?_
    refine XS.iloadN X0.here hx rfl (hb hby dpcr_5) rfl ?_
    refine XS.icmpYes X0.here hx rfl (pc0 := 6) (pc' := 16) rfl (hb hby dpcr_6) rfl (XT.ii_lt_t hn) (by decide) (by decide) ?_
    refine XS.iloadN X0.here hx rfl (hb hby dpcr_16) rfl ?_
    exact k)
  obtain ⟨fs, hr, hrun, hended, hW, hsame⟩ := X0.leave (v := some (.int i)) (fun h => by rw [Bd.returns] at h; cases h)
  refine ⟨_, _, pre2 _ ?_, hrun, hended, _, _, rfl, ?_, ⟨_, rfl⟩, hW, hsame.mono (by decide) (by decide)⟩
  · exact retI X0 hx Bd.returns (hb hby dpcr_17) hr
  · show Q_pcr Z i n xv h0 n0 _ s₁.heap _
    rw [e0]
    exact ⟨rfl, N0, rfl⟩
theorem dsci_0 : decode own_k40 0 = .ok (.iload_n 0, 1) := by decide +kernel
theorem dsci_1 : decode own_k40 1 = .ok (.iload_n 1, 1) := by decide +kernel
theorem dsci_2 : decode own_k40 2 = .ok (.getstatic 1053, 3) := by decide +kernel
theorem dsci_5 : decode own_k40 5 = .ok (.invokestatic 1059, 3) := by decide +kernel
theorem dsci_8 : decode own_k40 8 = .ok (.pop, 1) := by decide +kernel
theorem dsci_9 : decode own_k40 9 = .ok (.return_, 1) := by decide +kernel
theorem pn_sci : plainName "java/lang/String" = true := by first | (simp [plainName, overriddenIn]; done) | decide +kernel
theorem ef_sci (m : MethodId) (i : Int32) (n : Int32) : entryFrame m #[(.int i), (.int n)] 2 = (mkF m 0 #[own_i i, own_i n] []) := by first | (simp [entryFrame, mkF, argsToLocals, Value.category]; done) | rfl
def Q_sci (Z : State) (i n : Int32) (h0 : Heap) (n0 : Nat) (v : Option Value) (h : Heap) (L : List Loc) : Prop := v = none ∧ Fr n0 L ∧ h = h0
theorem rm_sci (l : Launch) (Z : State) (a0 : Array Value) (hw : own_W a0 Z) (ws : List Jvm.Cond) (i n : Int32) (h0 : Heap) (n0 : Nat) (Z0 : n0 ≤ h0.size) {vf : Value} (SF : Sta Z h0 "jdk/internal/util/Preconditions" "SIOOBE_FORMATTER" "Ljava/util/function/BiFunction;" vf) (hvf : vf.isRef = true) (hi : ¬ i < 0) (hn : i < n) :
    own_M l Z h0 ws own_y52 jdk_42_method_155_code 2 none (⟨1, 0, 0, 14⟩ : Room) #[(.int i), (.int n)] (Q_sci Z i n h0 n0) := by
  refine MetFree.of_bodySF (plainFor_of_name pn_sci) hisR ?_
  intro p e s m args below meth c s₁ Bd hml0 hP hK
  obtain ⟨rfl, hZ, hh⟩ := hP
  have hx := Bd.exec
  have hby := Bd.bytes
  have hml : c.maxLocals = 2 := hml0
  have hown : s.vm.findClass "java/lang/String" = some m.cls := findClass_of_methodNamed Bd.named
  have hnm := (name_of_methodNamed Bd.named Bd.method).1
  have X0 : Stand p l e (⟨1, 0, 0, 14⟩ : Room) s m #[(.int i), (.int n)] below meth c s₁ [] 0 0 := Stand.of_body Bd
  have e0 : s₁.heap = h0 := by rw [← hh, Bd.state]; rfl
  have N0 := Fr.nil n0
  have pre0 : ∀ t, Steps p.tables e below (s₁.setTop (mkF m 0 #[own_i i, own_i n] [])) t → Steps p.tables e below (s₁.setTop (entryFrame m #[(.int i), (.int n)] 2)) t := fun t k => castTop (ef_sci m i n) k
  rcases ref_cases hvf with hv | ⟨xv, hv⟩
  · subst hv
    have pre2 : own_G p e below s₁ s₁ _ _ := fun t k => pre0 t (by
      refine XS.iloadN X0.here hx rfl (hb hby dsci_0) rfl ?_
      refine XS.iloadN X0.here hx rfl (hb hby dsci_1) rfl ?_
      exact k)
    obtain ⟨T3, X3, e3, st3⟩ := getS2 X0 hx hZ hown (host := "") (Or.inl (own_h hw 135 rfl)) Via.refl e0 SF (g := (mkF m 2 #[own_i i, own_i n] [(.int n), (.int i)])) rfl (hb hby dsci_2)
    have pre4 : own_G p e below T3 s₁ _ _ := fun t k => pre2 t (by
      refine st3 _ ?_
      exact k)
    obtain ⟨_, _, ⟨T5, L5, kk5, nn5⟩, -, X5, ⟨Lc5, hQ5, l5, y5, z5⟩, st5⟩ := Jvm.LawKit.callS X3 hx (y := own_y13) hown (mvT hZ (own_h hw 137 rfl)) (mvT hZ (own_h hw 138 rfl)) (mvT hZ (own_h hw 136 rfl)) (mvT hZ (own_h hw 139 rfl)) (by decide) (backOf (W := 0) (rm_pcn l Z a0 hw [] i n h0 n0 Z0 hi hn) hZ (own_h hw 139 rfl) (own_h hw 136 rfl) (by decide) (by decide)) (g := (mkF m 5 #[own_i i, own_i n] [.null, (.int n), (.int i)])) rfl (by rw [hml]; rfl) (argsL := [(.int i), (.int n), .null]) (rest := []) (lenOf pd__IILjava_util_function_BiFunction__I rfl) rfl (by show 2 * 0 + _ ≤ _; exact Nat.le_of_eq rfl) (hb hby dsci_5) (fun _ _ => ⟨rfl, e3, (by decide : 0 + 0 ≤ _), (by decide : 0 + 0 ≤ _)⟩)
    dsimp only [Pt.U, Pt.locs, Pt.cells, Pt.slots] at X5 l5 y5 z5 st5 hQ5
    subst l5 y5 z5
    obtain ⟨rfl, N5q, eq5⟩ := hQ5
    have N5 := Fr.app N0 N5q
    have pre6 : own_G p e below T5 s₁ _ _ := fun t k => pre4 t (by
      refine st5 _ ?_
      refine XT.pop X5.here hx rfl (hb hby dsci_8) rfl rfl ?_
      exact k)
    obtain ⟨fs, hr, hrun, hended, hW, hsame⟩ := X5.leave (v := none) (fun _ => rfl)
    refine ⟨_, _, pre6 _ ?_, hrun, hended, _, _, rfl, ?_, ⟨_, rfl⟩, hW, hsame.mono (by decide) (by decide)⟩
    · exact X5.returnOut hx Bd.returns (hb hby dsci_9) hr
    · show Q_sci Z i n h0 n0 _ T5.heap _
      rw [eq5]
      exact ⟨rfl, N5, rfl⟩
  · subst hv
    have pre7 : own_G p e below s₁ s₁ _ _ := fun t k => pre0 t (by
      refine XS.iloadN X0.here hx rfl (hb hby dsci_0) rfl ?_
      refine XS.iloadN X0.here hx rfl (hb hby dsci_1) rfl ?_
      exact k)
    obtain ⟨T8, X8, e8, st8⟩ := getS2 X0 hx hZ hown (host := "") (Or.inl (own_h hw 135 rfl)) Via.refl e0 SF (g := (mkF m 2 #[own_i i, own_i n] [(.int n), (.int i)])) rfl (hb hby dsci_2)
    have pre9 : own_G p e below T8 s₁ _ _ := fun t k => pre7 t (by
      refine st8 _ ?_
      exact k)
    obtain ⟨_, _, ⟨T10, L10, kk10, nn10⟩, -, X10, ⟨Lc10, hQ10, l10, y10, z10⟩, st10⟩ := Jvm.LawKit.callS X8 hx (y := own_y13) hown (mvT hZ (own_h hw 137 rfl)) (mvT hZ (own_h hw 138 rfl)) (mvT hZ (own_h hw 136 rfl)) (mvT hZ (own_h hw 139 rfl)) (by decide) (backOf (W := 0) (rm_pcr l Z a0 hw [] i n xv h0 n0 Z0 hi hn) hZ (own_h hw 139 rfl) (own_h hw 136 rfl) (by decide) (by decide)) (g := (mkF m 5 #[own_i i, own_i n] [(.ref xv), (.int n), (.int i)])) rfl (by rw [hml]; rfl) (argsL := [(.int i), (.int n), (.ref xv)]) (rest := []) (lenOf pd__IILjava_util_function_BiFunction__I rfl) rfl (by show 2 * 0 + _ ≤ _; exact Nat.le_of_eq rfl) (hb hby dsci_5) (fun _ _ => ⟨rfl, e8, (by decide : 0 + 0 ≤ _), (by decide : 0 + 0 ≤ _)⟩)
    dsimp only [Pt.U, Pt.locs, Pt.cells, Pt.slots] at X10 l10 y10 z10 st10 hQ10
    subst l10 y10 z10
    obtain ⟨rfl, N10q, eq10⟩ := hQ10
    have N10 := Fr.app N0 N10q
    have pre11 : own_G p e below T10 s₁ _ _ := fun t k => pre9 t (by
      refine st10 _ ?_
      refine XT.pop X10.here hx rfl (hb hby dsci_8) rfl rfl ?_
      exact k)
    obtain ⟨fs, hr, hrun, hended, hW, hsame⟩ := X10.leave (v := none) (fun _ => rfl)
    refine ⟨_, _, pre11 _ ?_, hrun, hended, _, _, rfl, ?_, ⟨_, rfl⟩, hW, hsame.mono (by decide) (by decide)⟩
    · exact X10.returnOut hx Bd.returns (hb hby dsci_9) hr
    · show Q_sci Z i n h0 n0 _ T10.heap _
      rw [eq10]
      exact ⟨rfl, N10, rfl⟩
theorem dlca_0 : decode own_k23 0 = .ok (.iload_n 1, 1) := by decide +kernel
theorem dlca_1 : decode own_k23 1 = .ok (.aload_n 0, 1) := by decide +kernel
theorem dlca_2 : decode own_k23 2 = .ok (.arraylength, 1) := by decide +kernel
theorem dlca_3 : decode own_k23 3 = .ok (.invokestatic 9, 3) := by decide +kernel
theorem dlca_6 : decode own_k23 6 = .ok (.aload_n 0, 1) := by decide +kernel
theorem dlca_7 : decode own_k23 7 = .ok (.iload_n 1, 1) := by decide +kernel
theorem dlca_8 : decode own_k23 8 = .ok (.baload, 1) := by decide +kernel
theorem dlca_9 : decode own_k23 9 = .ok (.sipush 255, 3) := by decide +kernel
theorem dlca_12 : decode own_k23 12 = .ok (.iand, 1) := by decide +kernel
theorem dlca_13 : decode own_k23 13 = .ok (.i2c, 1) := by decide +kernel
theorem dlca_14 : decode own_k23 14 = .ok (.ireturn, 1) := by decide +kernel
theorem pd__II_V : parseMethodDescriptor "(II)V" = some ⟨[.int, .int], none⟩ := by decide +kernel
theorem pn_lca : plainName "java/lang/StringLatin1" = true := by first | (simp [plainName, overriddenIn]; done) | decide +kernel
theorem ef_lca (m : MethodId) (b : Addr) (i : Int32) : entryFrame m #[(.ref b), (.int i)] 2 = (mkF m 0 #[own_r b, own_i i] []) := by first | (simp [entryFrame, mkF, argsToLocals, Value.category]; done) | rfl
def Q_lca (Z : State) (i x0 ch : Int32) (b : Addr) (z : Int32) (k : ClassId) (vs : List Value) (h0 : Heap) (n0 : Nat) (v : Option Value) (h : Heap) (L : List Loc) : Prop := v = some (.int ch) ∧ Fr n0 L ∧ h = h0
theorem rm_lca (l : Launch) (Z : State) (a0 : Array Value) (hw : own_W a0 Z) (ws : List Jvm.Cond) (i x0 ch : Int32) (b : Addr) (z : Int32) (k : ClassId) (vs : List Value) (h0 : Heap) (n0 : Nat) (Z0 : n0 ≤ h0.size) {vf : Value} (SF : Sta Z h0 "jdk/internal/util/Preconditions" "SIOOBE_FORMATTER" "Ljava/util/function/BiFunction;" vf) (hvf : vf.isRef = true) (V1 : Arv Z h0 b k .byte z vs (.int (0 : Int32))) (hi : ¬ i < 0 ∧ i < z) (at0 : vs.getD i.toNatClampNeg (.int (0 : Int32)) = .int x0) (hc : nar .char ((x0 &&& (255 : Int32)).toUInt32.toUInt16.toUInt32.toInt32) = ch) :
    own_M l Z h0 ws own_y53 jdk_43_method_2_code 2 (some .char) (⟨2, 0, 0, 28⟩ : Room) #[(.ref b), (.int i)] (Q_lca Z i x0 ch b z k vs h0 n0) := by
  refine MetFree.of_bodySF (plainFor_of_name pn_lca) hisR ?_
  intro p e s m args below meth c s₁ Bd hml0 hP hK
  obtain ⟨rfl, hZ, hh⟩ := hP
  have hx := Bd.exec
  have hby := Bd.bytes
  have hml : c.maxLocals = 2 := hml0
  have hown : s.vm.findClass "java/lang/StringLatin1" = some m.cls := findClass_of_methodNamed Bd.named
  have hnm := (name_of_methodNamed Bd.named Bd.method).1
  have X0 : Stand p l e (⟨2, 0, 0, 28⟩ : Room) s m #[(.ref b), (.int i)] below meth c s₁ [] 0 0 := Stand.of_body Bd
  have e0 : s₁.heap = h0 := by rw [← hh, Bd.state]; rfl
  have N0 := Fr.nil n0
  have pre0 : ∀ t, Steps p.tables e below (s₁.setTop (mkF m 0 #[own_r b, own_i i] [])) t → Steps p.tables e below (s₁.setTop (entryFrame m #[(.ref b), (.int i)] 2)) t := fun t k => castTop (ef_lca m b i) k
  obtain ⟨cl2, Ar2, kc2, S2, M2, H2, G2⟩ := id V1
  have pre3 : own_G p e below s₁ s₁ _ _ := fun t k => pre0 t (by
    refine XS.iloadN X0.here hx rfl (hb hby dlca_0) rfl ?_
    refine XS.aloadN X0.here hx rfl (hb hby dlca_1) rfl rfl ?_
    refine X0.arraylength hx (cell := cl2) (by rw [e0]; exact Ar2.1) (State.isArrayOf_alike hZ.alike Ar2.2.1) (g := (mkF m 2 #[own_r b, own_i i] [(.ref b), (.int i)])) rfl (rest := [(.int i)]) rfl (hb hby dlca_2) _ ?_
    rw [len_of S2 M2]
    exact k)
  obtain ⟨_, _, ⟨T4, L4, kk4, nn4⟩, -, X4, ⟨Lc4, hQ4, l4, y4, z4⟩, st4⟩ := Jvm.LawKit.callS X0 hx (y := own_y52) hown (mvT hZ (own_h hw 132 rfl)) (mvT hZ (own_h hw 133 rfl)) (mvT hZ (own_h hw 35 rfl)) (mvT hZ (own_h hw 134 rfl)) (by decide) (backOf (W := 0) (rm_sci l Z a0 hw [] i z h0 n0 Z0 SF hvf hi.1 hi.2) hZ (own_h hw 134 rfl) (own_h hw 35 rfl) (by decide) (by decide)) (g := (mkF m 3 #[own_r b, own_i i] [(.int z), (.int i)])) rfl (by rw [hml]; rfl) (argsL := [(.int i), (.int z)]) (rest := []) (lenOf pd__II_V rfl) rfl (by show 2 * 0 + _ ≤ _; exact Nat.le_of_eq rfl) (hb hby dlca_3) (fun _ _ => ⟨rfl, e0, (by decide : 0 + 0 ≤ _), (by decide : 0 + 0 ≤ _)⟩)
  dsimp only [Pt.U, Pt.locs, Pt.cells, Pt.slots] at X4 l4 y4 z4 st4 hQ4
  subst l4 y4 z4
  obtain ⟨rfl, N4q, eq4⟩ := hQ4
  have N4 := Fr.app N0 N4q
  obtain ⟨cl5, Ar5, kc5, S5, M5, H5, G5⟩ := id V1
  have hin5 := inb_of S5 (j := i) hi
  have hat5 : cl5.slots[(i).toNatClampNeg]? = some (.int x0) := H5.at hin5 at0
  have pre6 : ∀ t, Steps p.tables e below (T4.setTop (mkF m 14 #[own_r b, own_i i] [(.int ((x0 &&& (255 : Int32)).toUInt32.toUInt16.toUInt32.toInt32))])) t → Steps p.tables e below (s₁.setTop (entryFrame m #[(.ref b), (.int i)] 2)) t := fun t k => pre3 t (by
    refine st4 _ ?_
    refine XS.aloadN X4.here hx rfl (hb hby dlca_6) rfl rfl ?_
    refine XS.iloadN X4.here hx rfl (hb hby dlca_7) rfl ?_
    refine X4.baloadBytes hx (j := i) (v := (.int x0)) (by rw [eq4]; exact Ar5.1) (State.isArrayOf_alike hZ.alike Ar5.2.1) Ar5.2.2 hin5 hat5 (g := (mkF m 8 #[own_r b, own_i i] [(.int i), (.ref b)])) rfl rfl (hb hby dlca_8) _ ?_
    refine XS.sipush X4.here hx rfl (hb hby dlca_9) ?_
    refine XS.iand X4.here hx rfl (hb hby dlca_12) rfl ?_
    refine XT.i2c X4.here hx rfl (hb hby dlca_13) rfl ?_
    exact k)
  obtain ⟨fs, hr, hrun, hended, hW, hsame⟩ := X4.leave (v := some (.int ch)) (fun h => by rw [Bd.returns] at h; cases h)
  refine ⟨_, _, pre6 _ ?_, hrun, hended, _, _, rfl, ?_, ⟨_, rfl⟩, hW, hsame.mono (by decide) (by decide)⟩
  · exact retN X4 hx (t := .char) Bd.returns (by simp) (hb hby dlca_14) (by rw [hc]; exact hr)
  · show Q_lca Z i x0 ch b z k vs h0 n0 _ T4.heap _
    rw [eq4]
    exact ⟨rfl, N4, rfl⟩
theorem dsco_0 : decode own_k41 0 = .ok (.getstatic 38, 3) := by decide +kernel
theorem dsco_3 : decode own_k41 3 = .ok (.ifCond .eq 10, 3) := by decide +kernel
theorem dsco_6 : decode own_k41 6 = .ok (.aload_n 0, 1) := by decide +kernel
theorem dsco_7 : decode own_k41 7 = .ok (.getfield 15, 3) := by decide +kernel
theorem dsco_10 : decode own_k41 10 = .ok (.goto 4, 3) := by decide +kernel
theorem dsco_14 : decode own_k41 14 = .ok (.ireturn, 1) := by decide +kernel
theorem ef_sco (m : MethodId) (a1 : Addr) : entryFrame m #[(.ref a1)] 1 = (mkF m 0 #[own_r a1] []) := by first | (simp [entryFrame, mkF, argsToLocals, Value.category]; done) | rfl
def Q_sco (Z : State) (a1 : Addr) (cd : Int32) (h0 : Heap) (n0 : Nat) (v : Option Value) (h : Heap) (L : List Loc) : Prop := v = some (.int cd) ∧ Fr n0 L ∧ h = h0
theorem rm_sco (l : Launch) (Z : State) (a0 : Array Value) (hw : own_W a0 Z) (ws : List Jvm.Cond) (a1 : Addr) (cd : Int32) (h0 : Heap) (n0 : Nat) (Z0 : n0 ≤ h0.size) {cz : Int32} (SC : Sta Z h0 "java/lang/String" "COMPACT_STRINGS" "Z" (.int cz)) (hcz : ¬ cz = 0) (F2 : Fld Z h0 a1 "java/lang/String" "coder" "B" (.int cd)) (hcd : nar .byte cd = cd) :
    own_M l Z h0 ws own_y30 jdk_42_method_152_code 1 (some .byte) (⟨0, 0, 0, 0⟩ : Room) #[(.ref a1)] (Q_sco Z a1 cd h0 n0) := by
  refine MetFree.of_bodySF (plainFor_of_name pn_sci) hisR ?_
  intro p e s m args below meth c s₁ Bd hml0 hP hK
  obtain ⟨rfl, hZ, hh⟩ := hP
  have hx := Bd.exec
  have hby := Bd.bytes
  have hml : c.maxLocals = 1 := hml0
  have hown : s.vm.findClass "java/lang/String" = some m.cls := findClass_of_methodNamed Bd.named
  have hnm := (name_of_methodNamed Bd.named Bd.method).1
  have X0 : Stand p l e (⟨0, 0, 0, 0⟩ : Room) s m #[(.ref a1)] below meth c s₁ [] 0 0 := Stand.of_body Bd
  have e0 : s₁.heap = h0 := by rw [← hh, Bd.state]; rfl
  have N0 := Fr.nil n0
  have pre0 : ∀ t, Steps p.tables e below (s₁.setTop (mkF m 0 #[own_r a1] [])) t → Steps p.tables e below (s₁.setTop (entryFrame m #[(.ref a1)] 1)) t := fun t k => castTop (ef_sco m a1) k
  obtain ⟨T2, X2, e2, st2⟩ := getS2 X0 hx hZ hown (host := "") (Or.inl (own_h hw 116 rfl)) Via.refl e0 SC (g := (mkF m 0 #[own_r a1] [])) rfl (hb hby dsco_0)
  have pre3 : own_G p e below T2 s₁ _ _ := fun t k => pre0 t (by
    refine st2 _ ?_
    refine XS.ifNo X2.here hx rfl (hb hby dsco_3) rfl (XT.i0_eq_f hcz) ?_
    refine XS.aloadN X2.here hx rfl (hb hby dsco_6) rfl rfl ?_
    exact k)
  obtain ⟨T4, X4, e4, st4⟩ := getF X2 hx hZ hown (host := "") (Or.inl (own_h hw 117 rfl)) Via.refl e2 F2 (g := (mkF m 7 #[own_r a1] [(.ref a1)])) rfl rfl (hb hby dsco_7)
  have pre5 : ∀ t, Steps p.tables e below (T4.setTop (mkF m 14 #[own_r a1] [(.int cd)])) t → Steps p.tables e below (s₁.setTop (entryFrame m #[(.ref a1)] 1)) t := fun t k => pre3 t (by
    refine st4 _ ?_
    refine XS.goto X4.here hx rfl (pc0 := 10) (pc' := 14) rfl (hb hby dsco_10) (by decide) (by decide) ?_
    exact k)
  obtain ⟨fs, hr, hrun, hended, hW, hsame⟩ := X4.leave (v := some (.int cd)) (fun h => by rw [Bd.returns] at h; cases h)
  refine ⟨_, _, pre5 _ ?_, hrun, hended, _, _, rfl, ?_, ⟨_, rfl⟩, hW, hsame.mono (by decide) (by decide)⟩
  · exact retN X4 hx (t := .byte) Bd.returns (by simp) (hb hby dsco_14) (by rw [hcd]; exact hr)
  · show Q_sco Z a1 cd h0 n0 _ T4.heap _
    rw [e4]
    exact ⟨rfl, N0, rfl⟩
theorem dsil_0 : decode own_k28 0 = .ok (.getstatic 38, 3) := by decide +kernel
theorem dsil_3 : decode own_k28 3 = .ok (.ifCond .eq 14, 3) := by decide +kernel
theorem dsil_6 : decode own_k28 6 = .ok (.aload_n 0, 1) := by decide +kernel
theorem dsil_7 : decode own_k28 7 = .ok (.getfield 15, 3) := by decide +kernel
theorem dsil_10 : decode own_k28 10 = .ok (.ifCond .ne 7, 3) := by decide +kernel
theorem dsil_13 : decode own_k28 13 = .ok (.iconst 1, 1) := by decide +kernel
theorem dsil_14 : decode own_k28 14 = .ok (.goto 4, 3) := by decide +kernel
theorem dsil_18 : decode own_k28 18 = .ok (.ireturn, 1) := by decide +kernel
theorem ef_sil (m : MethodId) (a1 : Addr) : entryFrame m #[(.ref a1)] 1 = (mkF m 0 #[own_r a1] []) := by first | (simp [entryFrame, mkF, argsToLocals, Value.category]; done) | rfl
def Q_sil (Z : State) (a1 : Addr) (h0 : Heap) (n0 : Nat) (v : Option Value) (h : Heap) (L : List Loc) : Prop := v = some (.int 1) ∧ Fr n0 L ∧ h = h0
theorem rm_sil (l : Launch) (Z : State) (a0 : Array Value) (hw : own_W a0 Z) (ws : List Jvm.Cond) (a1 : Addr) (h0 : Heap) (n0 : Nat) (Z0 : n0 ≤ h0.size) {cz : Int32} (SC : Sta Z h0 "java/lang/String" "COMPACT_STRINGS" "Z" (.int cz)) (hcz : ¬ cz = 0) (F2 : Fld Z h0 a1 "java/lang/String" "coder" "B" (.int (0 : Int32))) :
    own_M l Z h0 ws own_y31 jdk_42_method_154_code 1 (some .boolean) (⟨0, 0, 0, 0⟩ : Room) #[(.ref a1)] (Q_sil Z a1 h0 n0) := by
  refine MetFree.of_bodySF (plainFor_of_name pn_sci) hisR ?_
  intro p e s m args below meth c s₁ Bd hml0 hP hK
  obtain ⟨rfl, hZ, hh⟩ := hP
  have hx := Bd.exec
  have hby := Bd.bytes
  have hml : c.maxLocals = 1 := hml0
  have hown : s.vm.findClass "java/lang/String" = some m.cls := findClass_of_methodNamed Bd.named
  have hnm := (name_of_methodNamed Bd.named Bd.method).1
  have X0 : Stand p l e (⟨0, 0, 0, 0⟩ : Room) s m #[(.ref a1)] below meth c s₁ [] 0 0 := Stand.of_body Bd
  have e0 : s₁.heap = h0 := by rw [← hh, Bd.state]; rfl
  have N0 := Fr.nil n0
  have pre0 : ∀ t, Steps p.tables e below (s₁.setTop (mkF m 0 #[own_r a1] [])) t → Steps p.tables e below (s₁.setTop (entryFrame m #[(.ref a1)] 1)) t := fun t k => castTop (ef_sil m a1) k
  obtain ⟨T2, X2, e2, st2⟩ := getS2 X0 hx hZ hown (host := "") (Or.inl (own_h hw 116 rfl)) Via.refl e0 SC (g := (mkF m 0 #[own_r a1] [])) rfl (hb hby dsil_0)
  have pre3 : own_G p e below T2 s₁ _ _ := fun t k => pre0 t (by
    refine st2 _ ?_
    refine XS.ifNo X2.here hx rfl (hb hby dsil_3) rfl (XT.i0_eq_f hcz) ?_
    refine XS.aloadN X2.here hx rfl (hb hby dsil_6) rfl rfl ?_
    exact k)
  obtain ⟨T4, X4, e4, st4⟩ := getF X2 hx hZ hown (host := "") (Or.inl (own_h hw 117 rfl)) Via.refl e2 F2 (g := (mkF m 7 #[own_r a1] [(.ref a1)])) rfl rfl (hb hby dsil_7)
  have pre5 : own_G p e below T4 s₁ _ _ := fun t k => pre3 t (by
    refine st4 _ ?_
    refine XS.ifNo X4.here hx rfl (hb hby dsil_10) rfl (XT.i0_ne_f rfl) ?_
    refine XS.iconst X4.here hx rfl (hb hby dsil_13) ?_
    refine XS.goto X4.here hx rfl (pc0 := 14) (pc' := 18) rfl (hb hby dsil_14) (by decide) (by decide) ?_
    exact k)
  obtain ⟨fs, hr, hrun, hended, hW, hsame⟩ := X4.leave (v := some (.int (1 : Int32))) (fun h => by rw [Bd.returns] at h; cases h)
  refine ⟨_, _, pre5 _ ?_, hrun, hended, _, _, rfl, ?_, ⟨_, rfl⟩, hW, hsame.mono (by decide) (by decide)⟩
  · exact retN X4 hx (t := .boolean) Bd.returns (by simp) (hb hby dsil_18) hr
  · show Q_sil Z a1 h0 n0 _ T4.heap _
    rw [e4]
    exact ⟨rfl, N0, rfl⟩
theorem dsl_0 : decode own_k35 0 = .ok (.aload_n 0, 1) := by decide +kernel
theorem dsl_1 : decode own_k35 1 = .ok (.getfield 9, 3) := by decide +kernel
theorem dsl_4 : decode own_k35 4 = .ok (.arraylength, 1) := by decide +kernel
theorem dsl_5 : decode own_k35 5 = .ok (.aload_n 0, 1) := by decide +kernel
theorem dsl_6 : decode own_k35 6 = .ok (.invokevirtual 335, 3) := by decide +kernel
theorem dsl_9 : decode own_k35 9 = .ok (.ishr, 1) := by decide +kernel
theorem dsl_10 : decode own_k35 10 = .ok (.ireturn, 1) := by decide +kernel
theorem pd___B : parseMethodDescriptor "()B" = some ⟨[], some .byte⟩ := by decide +kernel
theorem ef_sl (m : MethodId) (a1 : Addr) : entryFrame m #[(.ref a1)] 1 = (mkF m 0 #[own_r a1] []) := by first | (simp [entryFrame, mkF, argsToLocals, Value.category]; done) | rfl
def Q_sl (Z : State) (a1 bv : Addr) (k : ClassId) (h0 : Heap) (n0 : Nat) (v : Option Value) (h : Heap) (L : List Loc) : Prop := v = some (.int (1 : Int32)) ∧ Fr n0 L ∧ h = h0
theorem rm_sl (l : Launch) (Z : State) (a0 : Array Value) (hw : own_W a0 Z) (ws : List Jvm.Cond) (a1 bv : Addr) (k : ClassId) (h0 : Heap) (n0 : Nat) (Z0 : n0 ≤ h0.size) {cz : Int32} (SC : Sta Z h0 "java/lang/String" "COMPACT_STRINGS" "Z" (.int cz)) (hcz : ¬ cz = 0) (E1 : Exa Z h0 a1 "java/lang/String") (F1 : Fld Z h0 a1 "java/lang/String" "value" "[B" (.ref bv)) (F2 : Fld Z h0 a1 "java/lang/String" "coder" "B" (.int (0 : Int32))) (V1 : Arv Z h0 bv k .byte (1 : Int32) [.int (116 : Int32)] (.int (0 : Int32)))  :
    own_M l Z h0 ws own_y15 jdk_42_method_54_code 1 (some .int) (⟨1, 0, 0, 14⟩ : Room) #[(.ref a1)] (Q_sl Z a1 bv k h0 n0) := by
  refine MetFree.of_bodySF (plainFor_of_name pn_sci) hisR ?_
  intro p e s m args below meth c s₁ Bd hml0 hP hK
  obtain ⟨rfl, hZ, hh⟩ := hP
  have hx := Bd.exec
  have hby := Bd.bytes
  have hml : c.maxLocals = 1 := hml0
  have hown : s.vm.findClass "java/lang/String" = some m.cls := findClass_of_methodNamed Bd.named
  have hnm := (name_of_methodNamed Bd.named Bd.method).1
  have X0 : Stand p l e (⟨1, 0, 0, 14⟩ : Room) s m #[(.ref a1)] below meth c s₁ [] 0 0 := Stand.of_body Bd
  have e0 : s₁.heap = h0 := by rw [← hh, Bd.state]; rfl
  have N0 := Fr.nil n0
  have pre0 : ∀ t, Steps p.tables e below (s₁.setTop (mkF m 0 #[own_r a1] [])) t → Steps p.tables e below (s₁.setTop (entryFrame m #[(.ref a1)] 1)) t := fun t k => castTop (ef_sl m a1) k
  have pre2 : own_G p e below s₁ s₁ _ _ := fun t k => pre0 t (by
    refine XS.aloadN X0.here hx rfl (hb hby dsl_0) rfl rfl ?_
    exact k)
  obtain ⟨T3, X3, e3, st3⟩ := getF X0 hx hZ hown (host := "") (Or.inl (own_h hw 110 rfl)) Via.refl e0 F1 (g := (mkF m 1 #[own_r a1] [(.ref a1)])) rfl rfl (hb hby dsl_1)
  obtain ⟨cl4, Ar4, kc4, S4, M4, H4, G4⟩ := id V1
  have pre5 : own_G p e below T3 s₁ _ _ := fun t k => pre2 t (by
    refine st3 _ ?_
    refine X3.arraylength hx (cell := cl4) (by rw [e3]; exact Ar4.1) (State.isArrayOf_alike hZ.alike Ar4.2.1) (g := (mkF m 4 #[own_r a1] [(.ref bv)])) rfl (rest := []) rfl (hb hby dsl_4) _ ?_
    rw [len_of S4 M4]
    refine XS.aloadN X3.here hx rfl (hb hby dsl_5) rfl rfl ?_
    exact k)
  obtain ⟨cq6, kq6, q6a, q6b, q6c⟩ := isOf hZ e3 E1
  obtain ⟨_, _, ⟨T6, L6, kk6, nn6⟩, -, X6, ⟨Lc6, hQ6, l6, y6, z6⟩, st6⟩ := X3.virtualBack hx (y := own_y30) (z := own_y30) hown (mvT hZ (own_h hw 111 rfl)) (mvT hZ (own_h hw 112 rfl)) (notFace_of_selects (args := #[]) (mvT hZ (own_h hw 114 rfl))) (mvT hZ (own_h hw 114 rfl)) (mvT hZ (own_h hw 113 rfl)) (by decide) (backOf (W := 1) (rm_sco l Z a0 hw [] a1 (0 : Int32) h0 n0 Z0 SC hcz F2 (by decide)) hZ (own_h hw 115 rfl) (own_h hw 35 rfl) (by decide) (by decide)) q6a q6c (g := (mkF m 6 #[own_r a1] [(.ref a1), (.int (1 : Int32))])) rfl (by rw [hml]; rfl) (Steps.refl _) (argsL := []) (rest := [(.int (1 : Int32))]) (lenOf pd___B rfl) rfl (by show 2 * 0 + _ ≤ _; exact Nat.le_of_eq rfl) (hb hby dsl_6) (fun _ _ => ⟨rfl, e3, (by decide : 0 + 0 ≤ _), (by decide : 0 + 0 ≤ _)⟩)
  dsimp only [Pt.U, Pt.locs, Pt.cells, Pt.slots] at X6 l6 y6 z6 st6 hQ6
  subst l6 y6 z6
  obtain ⟨rfl, N6q, eq6⟩ := hQ6
  have N6 := Fr.app N0 N6q
  have pre7 : own_G p e below T6 s₁ _ _ := fun t k => pre5 t (by
    refine st6.trans ?_
    refine XT.ishr X6.here hx rfl (hb hby dsl_9) rfl ?_
    show Steps p.tables e below (T6.setTop (mkF m 10 #[own_r a1] [(.int ((1 : Int32) >>> ((0 : Int32) &&& 31)))])) _
    rw [show ((1 : Int32) >>> ((0 : Int32) &&& 31)) = (1 : Int32) from by decide]
    exact k)
  obtain ⟨fs, hr, hrun, hended, hW, hsame⟩ := X6.leave (v := some (.int (1 : Int32))) (fun h => by rw [Bd.returns] at h; cases h)
  refine ⟨_, _, pre7 _ ?_, hrun, hended, _, _, rfl, ?_, ⟨_, rfl⟩, hW, hsame.mono (by decide) (by decide)⟩
  · exact retI X6 hx Bd.returns (hb hby dsl_10) hr
  · show Q_sl Z a1 bv k h0 n0 _ T6.heap _
    rw [eq6]
    exact ⟨rfl, N6, rfl⟩
theorem dsca_0 : decode own_k29 0 = .ok (.aload_n 0, 1) := by decide +kernel
theorem dsca_1 : decode own_k29 1 = .ok (.invokevirtual 492, 3) := by decide +kernel
theorem dsca_4 : decode own_k29 4 = .ok (.ifCond .eq 12, 3) := by decide +kernel
theorem dsca_7 : decode own_k29 7 = .ok (.aload_n 0, 1) := by decide +kernel
theorem dsca_8 : decode own_k29 8 = .ok (.getfield 9, 3) := by decide +kernel
theorem dsca_11 : decode own_k29 11 = .ok (.iload_n 1, 1) := by decide +kernel
theorem dsca_12 : decode own_k29 12 = .ok (.invokestatic 495, 3) := by decide +kernel
theorem dsca_15 : decode own_k29 15 = .ok (.ireturn, 1) := by decide +kernel
theorem pd___BI_C : parseMethodDescriptor "([BI)C" = some ⟨[(.array .byte), .int], some .char⟩ := by decide +kernel
theorem ef_sca (m : MethodId) (a1 : Addr) : entryFrame m #[(.ref a1), (.int (0 : Int32))] 2 = (mkF m 0 #[own_r a1, .val (.int (0 : Int32))] []) := by first | (simp [entryFrame, mkF, argsToLocals, Value.category]; done) | rfl
def Q_sca (Z : State) (a1 bv : Addr) (k : ClassId) (h0 : Heap) (n0 : Nat) (v : Option Value) (h : Heap) (L : List Loc) : Prop := v = some (.int (116 : Int32)) ∧ Fr n0 L ∧ h = h0
theorem rm_sca (l : Launch) (Z : State) (a0 : Array Value) (hw : own_W a0 Z) (ws : List Jvm.Cond) (a1 bv : Addr) (k : ClassId) (h0 : Heap) (n0 : Nat) (Z0 : n0 ≤ h0.size) {cz : Int32} (SC : Sta Z h0 "java/lang/String" "COMPACT_STRINGS" "Z" (.int cz)) (hcz : ¬ cz = 0) {vf : Value} (SF : Sta Z h0 "jdk/internal/util/Preconditions" "SIOOBE_FORMATTER" "Ljava/util/function/BiFunction;" vf) (hvf : vf.isRef = true) (E1 : Exa Z h0 a1 "java/lang/String") (F1 : Fld Z h0 a1 "java/lang/String" "value" "[B" (.ref bv)) (F2 : Fld Z h0 a1 "java/lang/String" "coder" "B" (.int (0 : Int32))) (V1 : Arv Z h0 bv k .byte (1 : Int32) [.int (116 : Int32)] (.int (0 : Int32)))  :
    own_M l Z h0 ws own_y32 jdk_42_method_56_code 2 (some .char) (⟨3, 0, 0, 42⟩ : Room) #[(.ref a1), (.int (0 : Int32))] (Q_sca Z a1 bv k h0 n0) := by
  refine MetFree.of_bodySF (plainFor_of_name pn_sci) hisR ?_
  intro p e s m args below meth c s₁ Bd hml0 hP hK
  obtain ⟨rfl, hZ, hh⟩ := hP
  have hx := Bd.exec
  have hby := Bd.bytes
  have hml : c.maxLocals = 2 := hml0
  have hown : s.vm.findClass "java/lang/String" = some m.cls := findClass_of_methodNamed Bd.named
  have hnm := (name_of_methodNamed Bd.named Bd.method).1
  have X0 : Stand p l e (⟨3, 0, 0, 42⟩ : Room) s m #[(.ref a1), (.int (0 : Int32))] below meth c s₁ [] 0 0 := Stand.of_body Bd
  have e0 : s₁.heap = h0 := by rw [← hh, Bd.state]; rfl
  have N0 := Fr.nil n0
  have pre0 : ∀ t, Steps p.tables e below (s₁.setTop (mkF m 0 #[own_r a1, .val (.int (0 : Int32))] [])) t → Steps p.tables e below (s₁.setTop (entryFrame m #[(.ref a1), (.int (0 : Int32))] 2)) t := fun t k => castTop (ef_sca m a1) k
  have pre2 : own_G p e below s₁ s₁ _ _ := fun t k => pre0 t (by
    refine XS.aloadN X0.here hx rfl (hb hby dsca_0) rfl rfl ?_
    exact k)
  obtain ⟨cq3, kq3, q3a, q3b, q3c⟩ := isOf hZ e0 E1
  obtain ⟨_, _, ⟨T3, L3, kk3, nn3⟩, -, X3, ⟨Lc3, hQ3, l3, y3, z3⟩, st3⟩ := X0.virtualBack hx (y := own_y31) (z := own_y31) hown (mvT hZ (own_h hw 123 rfl)) (mvT hZ (own_h hw 124 rfl)) (notFace_of_selects (args := #[]) (mvT hZ (own_h hw 126 rfl))) (mvT hZ (own_h hw 126 rfl)) (mvT hZ (own_h hw 125 rfl)) (by decide) (backOf (W := 0) (rm_sil l Z a0 hw [] a1 h0 n0 Z0 SC hcz F2) hZ (own_h hw 127 rfl) (own_h hw 35 rfl) (by decide) (by decide)) q3a q3c (g := (mkF m 1 #[own_r a1, .val (.int (0 : Int32))] [(.ref a1)])) rfl (by rw [hml]; rfl) (Steps.refl _) (argsL := []) (rest := []) (lenOf pd___Z rfl) rfl (by show 2 * 0 + _ ≤ _; exact Nat.le_of_eq rfl) (hb hby dsca_1) (fun _ _ => ⟨rfl, e0, (by decide : 0 + 0 ≤ _), (by decide : 0 + 0 ≤ _)⟩)
  dsimp only [Pt.U, Pt.locs, Pt.cells, Pt.slots] at X3 l3 y3 z3 st3 hQ3
  subst l3 y3 z3
  obtain ⟨rfl, N3q, eq3⟩ := hQ3
  have N3 := Fr.app N0 N3q
  have pre4 : own_G p e below T3 s₁ _ _ := fun t k => pre2 t (by
    refine st3.trans ?_
    refine XS.ifNo X3.here hx rfl (hb hby dsca_4) rfl (XT.i0_eq_f (by decide)) ?_
    refine XS.aloadN X3.here hx rfl (hb hby dsca_7) rfl rfl ?_
    exact k)
  obtain ⟨T5, X5, e5, st5⟩ := getF X3 hx hZ hown (host := "") (Or.inl (own_h hw 110 rfl)) Via.refl eq3 F1 (g := (mkF m 8 #[own_r a1, .val (.int (0 : Int32))] [(.ref a1)])) rfl rfl (hb hby dsca_8)
  have pre6 : own_G p e below T5 s₁ _ _ := fun t k => pre4 t (by
    refine st5 _ ?_
    refine XS.iloadN X5.here hx rfl (hb hby dsca_11) rfl ?_
    exact k)
  obtain ⟨_, _, ⟨T7, L7, kk7, nn7⟩, -, X7, ⟨Lc7, hQ7, l7, y7, z7⟩, st7⟩ := Jvm.LawKit.callS X5 hx (y := own_y53) hown (mvT hZ (own_h hw 128 rfl)) (mvT hZ (own_h hw 129 rfl)) (mvT hZ (own_h hw 130 rfl)) (mvT hZ (own_h hw 131 rfl)) (by decide) (backOf (W := 0) (rm_lca l Z a0 hw [] (0 : Int32) (116 : Int32) (116 : Int32) bv (1 : Int32) k [.int (116 : Int32)] h0 n0 Z0 SF hvf V1 (by decide) rfl (by decide)) hZ (own_h hw 131 rfl) (own_h hw 130 rfl) (by decide) (by decide)) (g := (mkF m 12 #[own_r a1, .val (.int (0 : Int32))] [(.int (0 : Int32)), (.ref bv)])) rfl (by rw [hml]; rfl) (argsL := [(.ref bv), (.int (0 : Int32))]) (rest := []) (lenOf pd___BI_C rfl) rfl (by show 2 * 0 + _ ≤ _; exact Nat.le_of_eq rfl) (hb hby dsca_12) (fun _ _ => ⟨rfl, e5, (by decide : 0 + 0 ≤ _), (by decide : 0 + 0 ≤ _)⟩)
  dsimp only [Pt.U, Pt.locs, Pt.cells, Pt.slots] at X7 l7 y7 z7 st7 hQ7
  subst l7 y7 z7
  obtain ⟨rfl, N7q, eq7⟩ := hQ7
  have N7 := Fr.app N3 N7q
  have pre8 : ∀ t, Steps p.tables e below (T7.setTop (mkF m 15 #[own_r a1, .val (.int (0 : Int32))] [(.int (116 : Int32))])) t → Steps p.tables e below (s₁.setTop (entryFrame m #[(.ref a1), (.int (0 : Int32))] 2)) t := fun t k => pre6 t (by
    refine st7 _ ?_
    exact k)
  obtain ⟨fs, hr, hrun, hended, hW, hsame⟩ := X7.leave (v := some (.int (116 : Int32))) (fun h => by rw [Bd.returns] at h; cases h)
  refine ⟨_, _, pre8 _ ?_, hrun, hended, _, _, rfl, ?_, ⟨_, rfl⟩, hW, hsame.mono (by decide) (by decide)⟩
  · exact retN X7 hx (t := .char) Bd.returns (by simp) (hb hby dsca_15) (by rw [(show nar .char (116 : Int32) = (116 : Int32) by decide)]; exact hr)
  · show Q_sca Z a1 bv k h0 n0 _ T7.heap _
    rw [eq7]
    exact ⟨rfl, N7, rfl⟩
theorem dmxs_0 : decode own_k9 0 = .ok (.lload_n 0, 1) := by decide +kernel
theorem dmxs_1 : decode own_k9 1 = .ok (.lstore_n 3, 1) := by decide +kernel
theorem dmxs_2 : decode own_k9 2 = .ok (.iconst 0, 1) := by decide +kernel
theorem dmxs_3 : decode own_k9 3 = .ok (.istore 5, 2) := by decide +kernel
theorem dmxs_5 : decode own_k9 5 = .ok (.iload 5, 2) := by decide +kernel
theorem dmxs_7 : decode own_k9 7 = .ok (.aload_n 2, 1) := by decide +kernel
theorem dmxs_8 : decode own_k9 8 = .ok (.invokevirtual 99, 3) := by decide +kernel
theorem dmxs_11 : decode own_k9 11 = .ok (.if_icmp .ge 23, 3) := by decide +kernel
theorem dmxs_14 : decode own_k9 14 = .ok (.lload_n 3, 1) := by decide +kernel
theorem dmxs_15 : decode own_k9 15 = .ok (.aload_n 2, 1) := by decide +kernel
theorem dmxs_16 : decode own_k9 16 = .ok (.iload 5, 2) := by decide +kernel
theorem dmxs_18 : decode own_k9 18 = .ok (.invokevirtual 105, 3) := by decide +kernel
theorem dmxs_21 : decode own_k9 21 = .ok (.i2l, 1) := by decide +kernel
theorem dmxs_22 : decode own_k9 22 = .ok (.lxor, 1) := by decide +kernel
theorem dmxs_23 : decode own_k9 23 = .ok (.ldc2_w 109, 3) := by decide +kernel
theorem dmxs_26 : decode own_k9 26 = .ok (.lmul, 1) := by decide +kernel
theorem dmxs_27 : decode own_k9 27 = .ok (.lstore_n 3, 1) := by decide +kernel
theorem dmxs_28 : decode own_k9 28 = .ok (.iinc 5 1, 3) := by decide +kernel
theorem dmxs_31 : decode own_k9 31 = .ok (.goto (-26), 3) := by decide +kernel
theorem dmxs_34 : decode own_k9 34 = .ok (.lload_n 3, 1) := by decide +kernel
theorem dmxs_35 : decode own_k9 35 = .ok (.ldc2_w 111, 3) := by decide +kernel
theorem dmxs_38 : decode own_k9 38 = .ok (.lxor, 1) := by decide +kernel
theorem dmxs_39 : decode own_k9 39 = .ok (.ldc2_w 109, 3) := by decide +kernel
theorem dmxs_42 : decode own_k9 42 = .ok (.lmul, 1) := by decide +kernel
theorem dmxs_43 : decode own_k9 43 = .ok (.lreturn, 1) := by decide +kernel
theorem pd___I : parseMethodDescriptor "()I" = some ⟨[], some .int⟩ := by decide +kernel
theorem pd__I_C : parseMethodDescriptor "(I)C" = some ⟨[.int], some .char⟩ := by decide +kernel
theorem ef_mxs (m : MethodId) (p1 : Int64) (a1 : Addr) : entryFrame m #[(.long p1), (.ref a1)] 6 = (mkF m 0 #[.val (.long p1), .second, own_r a1, .unset, .unset, .unset] []) := by first | (simp [entryFrame, mkF, argsToLocals, Value.category]; done) | rfl
def Q_mxs (Z : State) (p1 : Int64) (a1 bv : Addr) (k : ClassId) (h0 : Heap) (n0 : Nat) (v : Option Value) (h : Heap) (L : List Loc) : Prop := ∃ q : Int64, v = some (.long q) ∧ Fr n0 L ∧ h = h0
theorem rm_mxs (l : Launch) (Z : State) (a0 : Array Value) (hw : own_W a0 Z) (ws : List Jvm.Cond) (p1 : Int64) (a1 bv : Addr) (k : ClassId) (h0 : Heap) (n0 : Nat) (Z0 : n0 ≤ h0.size) {cz : Int32} (SC : Sta Z h0 "java/lang/String" "COMPACT_STRINGS" "Z" (.int cz)) (hcz : ¬ cz = 0) {vf : Value} (SF : Sta Z h0 "jdk/internal/util/Preconditions" "SIOOBE_FORMATTER" "Ljava/util/function/BiFunction;" vf) (hvf : vf.isRef = true) (E1 : Exa Z h0 a1 "java/lang/String") (F1 : Fld Z h0 a1 "java/lang/String" "value" "[B" (.ref bv)) (F2 : Fld Z h0 a1 "java/lang/String" "coder" "B" (.int (0 : Int32))) (V1 : Arv Z h0 bv k .byte (1 : Int32) [.int (116 : Int32)] (.int (0 : Int32)))  :
    own_M l Z h0 ws own_y54 prog_45_method_2_code 6 (some .long) (⟨4, 0, 0, 60⟩ : Room) #[(.long p1), (.ref a1)] (Q_mxs Z p1 a1 bv k h0 n0) := by
  refine MetFree.of_bodySF (plainFor_of_name pn_mxj) hisR ?_
  intro p e s m args below meth c s₁ Bd hml0 hP hK
  obtain ⟨rfl, hZ, hh⟩ := hP
  have hx := Bd.exec
  have hby := Bd.bytes
  have hml : c.maxLocals = 6 := hml0
  have hown : s.vm.findClass "com/example/tributary/tributary/merge/Tree" = some m.cls := findClass_of_methodNamed Bd.named
  have hnm := (name_of_methodNamed Bd.named Bd.method).1
  have X0 : Stand p l e (⟨4, 0, 0, 60⟩ : Room) s m #[(.long p1), (.ref a1)] below meth c s₁ [] 0 0 := Stand.of_body Bd
  have e0 : s₁.heap = h0 := by rw [← hh, Bd.state]; rfl
  have N0 := Fr.nil n0
  have pre0 : ∀ t, Steps p.tables e below (s₁.setTop (mkF m 0 #[.val (.long p1), .second, own_r a1, .unset, .unset, .unset] [])) t → Steps p.tables e below (s₁.setTop (entryFrame m #[(.long p1), (.ref a1)] 6)) t := fun t k => castTop (ef_mxs m p1 a1) k
  have pre2 : own_G p e below s₁ s₁ _ _ := fun t k => pre0 t (by
    refine XT.lloadN X0.here hx rfl (hb hby dmxs_0) rfl ?_
    refine XT.lstoreN X0.here hx rfl (hb hby dmxs_1) rfl (l' := #[.val (.long p1), .second, own_r a1, .val (.long p1), .second, .unset]) rfl ?_
    refine XS.iconst X0.here hx rfl (hb hby dmxs_2) ?_
    refine XS.istore X0.here hx rfl (hb hby dmxs_3) rfl (l' := #[.val (.long p1), .second, own_r a1, .val (.long p1), .second, .val (.int (0 : Int32))]) rfl ?_
    refine XS.iload X0.here hx rfl (hb hby dmxs_5) rfl ?_
    refine XS.aloadN X0.here hx rfl (hb hby dmxs_7) rfl rfl ?_
    exact k)
  obtain ⟨cq3, kq3, q3a, q3b, q3c⟩ := isOf hZ e0 E1
  obtain ⟨_, _, ⟨T3, L3, kk3, nn3⟩, -, X3, ⟨Lc3, hQ3, l3, y3, z3⟩, st3⟩ := X0.virtualBack hx (y := own_y15) (z := own_y15) hown (mvT hZ (own_h hw 105 rfl)) (mvT hZ (own_h hw 106 rfl)) (notFace_of_selects (args := #[]) (mvT hZ (own_h hw 108 rfl))) (mvT hZ (own_h hw 108 rfl)) (mvT hZ (own_h hw 107 rfl)) (by decide) (backOf (W := 1) (rm_sl l Z a0 hw [] a1 bv k h0 n0 Z0 SC hcz E1 F1 F2 V1) hZ (own_h hw 109 rfl) (own_h hw 35 rfl) (by decide) (by decide)) q3a q3c (g := (mkF m 8 #[.val (.long p1), .second, own_r a1, .val (.long p1), .second, .val (.int (0 : Int32))] [(.ref a1), (.int (0 : Int32))])) rfl (by rw [hml]; rfl) (Steps.refl _) (argsL := []) (rest := [(.int (0 : Int32))]) (lenOf pd___I rfl) rfl (by show 2 * 0 + _ ≤ _; exact Nat.le_of_eq rfl) (hb hby dmxs_8) (fun _ _ => ⟨rfl, e0, (by decide : 0 + 0 ≤ _), (by decide : 0 + 0 ≤ _)⟩)
  dsimp only [Pt.U, Pt.locs, Pt.cells, Pt.slots] at X3 l3 y3 z3 st3 hQ3
  subst l3 y3 z3
  obtain ⟨rfl, N3q, eq3⟩ := hQ3
  have N3 := Fr.app N0 N3q
  have pre4 : own_G p e below T3 s₁ _ _ := fun t k => pre2 t (by
    refine st3.trans ?_
    refine XS.icmpNo X3.here hx rfl (hb hby dmxs_11) rfl (XT.ii_ge_f (by decide)) ?_
    refine XT.lloadN X3.here hx rfl (hb hby dmxs_14) rfl ?_
    refine XS.aloadN X3.here hx rfl (hb hby dmxs_15) rfl rfl ?_
    refine XS.iload X3.here hx rfl (hb hby dmxs_16) rfl ?_
    exact k)
  obtain ⟨cq5, kq5, q5a, q5b, q5c⟩ := isOf hZ eq3 E1
  obtain ⟨_, _, ⟨T5, L5, kk5, nn5⟩, -, X5, ⟨Lc5, hQ5, l5, y5, z5⟩, st5⟩ := X3.virtualBack hx (y := own_y32) (z := own_y32) hown (mvT hZ (own_h hw 118 rfl)) (mvT hZ (own_h hw 119 rfl)) (notFace_of_selects (args := #[]) (mvT hZ (own_h hw 121 rfl))) (mvT hZ (own_h hw 121 rfl)) (mvT hZ (own_h hw 120 rfl)) (by decide) (backOf (W := 2) (rm_sca l Z a0 hw [] a1 bv k h0 n0 Z0 SC hcz SF hvf E1 F1 F2 V1) hZ (own_h hw 122 rfl) (own_h hw 35 rfl) (by decide) (by decide)) q5a q5c (g := (mkF m 18 #[.val (.long p1), .second, own_r a1, .val (.long p1), .second, .val (.int (0 : Int32))] [(.int (0 : Int32)), (.ref a1), (.long p1)])) rfl (by rw [hml]; rfl) (Steps.refl _) (argsL := [(.int (0 : Int32))]) (rest := [(.long p1)]) (lenOf pd__I_C rfl) rfl (by show 2 * 0 + _ ≤ _; exact Nat.le_of_eq rfl) (hb hby dmxs_18) (fun _ _ => ⟨rfl, eq3, (by decide : 0 + 0 ≤ _), (by decide : 0 + 0 ≤ _)⟩)
  dsimp only [Pt.U, Pt.locs, Pt.cells, Pt.slots] at X5 l5 y5 z5 st5 hQ5
  subst l5 y5 z5
  obtain ⟨rfl, N5q, eq5⟩ := hQ5
  have N5 := Fr.app N3 N5q
  obtain ⟨q1, hq1⟩ : ∃ z : Int64, ((p1 ^^^ ((116 : Int32).toInt64)) * (1099511628211 : Int64)) = z := ⟨_, rfl⟩
  have pre6 : own_G p e below T5 s₁ _ _ := fun t k => pre4 t (by
    refine st5.trans ?_
    refine XT.i2l X5.here hx rfl (hb hby dmxs_21) rfl ?_
    refine XT.lxor X5.here hx rfl (hb hby dmxs_22) rfl ?_
    refine X5.ldc2J hx hown (mvT hZ (own_h hw 140 rfl)) rfl (hb hby dmxs_23) ?_
    refine XT.lmul X5.here hx rfl (hb hby dmxs_26) rfl ?_
    refine XT.lstoreN X5.here hx rfl (hb hby dmxs_27) rfl (l' := #[.val (.long p1), .second, own_r a1, .val (.long ((p1 ^^^ ((116 : Int32).toInt64)) * (1099511628211 : Int64))), .second, .val (.int (0 : Int32))]) rfl ?_
    show Steps p.tables e below (T5.setTop (mkF m 28 #[.val (.long p1), .second, own_r a1, .val (.long ((p1 ^^^ ((116 : Int32).toInt64)) * (1099511628211 : Int64))), .second, .val (.int (0 : Int32))] [])) _
    rw [hq1]
    refine XT.iincV X5.here hx rfl (1 : Int32) (hb hby dmxs_28) (by decide) rfl (l' := #[.val (.long p1), .second, own_r a1, .val (.long q1), .second, .val (.int ((0 : Int32) + (1 : Int32)))]) rfl ?_
    show Steps p.tables e below (T5.setTop (mkF m 31 #[.val (.long p1), .second, own_r a1, .val (.long q1), .second, .val (.int ((0 : Int32) + (1 : Int32)))] [])) _
    rw [show ((0 : Int32) + (1 : Int32)) = (1 : Int32) from by decide]
    refine XS.goto X5.here hx rfl (pc0 := 31) (pc' := 5) rfl (hb hby dmxs_31) (by decide) (by decide) ?_
    refine XS.iload X5.here hx rfl (hb hby dmxs_5) rfl ?_
    refine XS.aloadN X5.here hx rfl (hb hby dmxs_7) rfl rfl ?_
    exact k)
  obtain ⟨cq7, kq7, q7a, q7b, q7c⟩ := isOf hZ eq5 E1
  obtain ⟨_, _, ⟨T7, L7, kk7, nn7⟩, -, X7, ⟨Lc7, hQ7, l7, y7, z7⟩, st7⟩ := X5.virtualBack hx (y := own_y15) (z := own_y15) hown (mvT hZ (own_h hw 105 rfl)) (mvT hZ (own_h hw 106 rfl)) (notFace_of_selects (args := #[]) (mvT hZ (own_h hw 108 rfl))) (mvT hZ (own_h hw 108 rfl)) (mvT hZ (own_h hw 107 rfl)) (by decide) (backOf (W := 1) (rm_sl l Z a0 hw [] a1 bv k h0 n0 Z0 SC hcz E1 F1 F2 V1) hZ (own_h hw 109 rfl) (own_h hw 35 rfl) (by decide) (by decide)) q7a q7c (g := (mkF m 8 #[.val (.long p1), .second, own_r a1, .val (.long q1), .second, .val (.int (1 : Int32))] [(.ref a1), (.int (1 : Int32))])) rfl (by rw [hml]; rfl) (Steps.refl _) (argsL := []) (rest := [(.int (1 : Int32))]) (lenOf pd___I rfl) rfl (by show 2 * 0 + _ ≤ _; exact Nat.le_of_eq rfl) (hb hby dmxs_8) (fun _ _ => ⟨rfl, eq5, (by decide : 0 + 0 ≤ _), (by decide : 0 + 0 ≤ _)⟩)
  dsimp only [Pt.U, Pt.locs, Pt.cells, Pt.slots] at X7 l7 y7 z7 st7 hQ7
  subst l7 y7 z7
  obtain ⟨rfl, N7q, eq7⟩ := hQ7
  have N7 := Fr.app N5 N7q
  obtain ⟨q2, hq2⟩ : ∃ z : Int64, ((q1 ^^^ (255 : Int64)) * (1099511628211 : Int64)) = z := ⟨_, rfl⟩
  have pre8 : own_G p e below T7 s₁ _ _ := fun t k => pre6 t (by
    refine st7.trans ?_
    refine XS.icmpYes X7.here hx rfl (pc0 := 11) (pc' := 34) rfl (hb hby dmxs_11) rfl (XT.ii_ge_t (by decide)) (by decide) (by decide) ?_
    refine XT.lloadN X7.here hx rfl (hb hby dmxs_34) rfl ?_
    refine X7.ldc2J hx hown (mvT hZ (own_h hw 141 rfl)) rfl (hb hby dmxs_35) ?_
    refine XT.lxor X7.here hx rfl (hb hby dmxs_38) rfl ?_
    refine X7.ldc2J hx hown (mvT hZ (own_h hw 140 rfl)) rfl (hb hby dmxs_39) ?_
    refine XT.lmul X7.here hx rfl (hb hby dmxs_42) rfl ?_
    show Steps p.tables e below (T7.setTop (mkF m 43 #[.val (.long p1), .second, own_r a1, .val (.long q1), .second, .val (.int (1 : Int32))] [(.long ((q1 ^^^ (255 : Int64)) * (1099511628211 : Int64)))])) _
    rw [hq2]
    exact k)
  obtain ⟨fs, hr, hrun, hended, hW, hsame⟩ := X7.leave (v := some (.long q2)) (fun h => by rw [Bd.returns] at h; cases h)
  refine ⟨_, _, pre8 _ ?_, hrun, hended, _, _, rfl, ?_, ⟨_, rfl⟩, hW, hsame.mono (by decide) (by decide)⟩
  · exact X7.lreturnOut hx Bd.returns (hb hby dmxs_43) hr
  · show Q_mxs Z p1 a1 bv k h0 n0 _ T7.heap _
    rw [eq7]
    exact ⟨q2, rfl, N7, rfl⟩
def own_fold (S : Addr → Int32) : Int32 → List Addr → Int32
  | s, [] => s
  | s, x :: r => own_fold S (s + S x) r
def own_Ch (Z : State) (h : Heap) (S : Addr → Int32) (x : Addr) : Prop := Exa Z h x "com/example/tributary/tributary/merge/Tree" ∧ (∃ q : Int64, Fld Z h x "com/example/tributary/tributary/merge/Tree" "hash" "J" (.long q)) ∧ Fld Z h x "com/example/tributary/tributary/merge/Tree" "size" "I" (.int (S x)) ∧ ∃ q : Int32, Fld Z h x "com/example/tributary/tributary/merge/Tree" "height" "I" (.int q)
def own_Node (Z : State) (h : Heap) (em t : Addr) (xs : List Addr) (n : Int32) : Prop := Exa Z h t "com/example/tributary/tributary/merge/Tree" ∧ (∃ l, Fld Z h t "com/example/tributary/tributary/merge/Tree" "children" "Ljava/util/List;" (.ref l) ∧ own_Kids Z h em h.size l xs) ∧ Fld Z h t "com/example/tributary/tributary/merge/Tree" "size" "I" (.int n) ∧ Fld Z h t "com/example/tributary/tributary/merge/Tree" "pre" "I" (.int (0 : Int32)) ∧ Fld Z h t "com/example/tributary/tributary/merge/Tree" "parent" "Lcom/example/tributary/tributary/merge/Tree;" .null ∧ (∃ q : Int64, Fld Z h t "com/example/tributary/tributary/merge/Tree" "hash" "J" (.long q)) ∧ ∃ q : Int32, Fld Z h t "com/example/tributary/tributary/merge/Tree" "height" "I" (.int q)
theorem own_Node_re {Z : State} {h h' : Heap} {em t : Addr} {xs : List Addr} {n : Int32} {a0 : Array Value} (w : (Jvm.Cond.instantiable "com/example/tributary/tributary/merge/Tree" 18).before a0 Z = true) (F : own_Node Z h em t xs n) (K : Keep h h' []) : own_Node Z h' em t xs n := by
  obtain ⟨E, ⟨l, G, D⟩, S, P, Q, ⟨q, H⟩, r, I⟩ := F
  exact ⟨E.keep K, ⟨l, G.keep K (by simp), own_Kids_re w D K⟩, S.keep K (by simp), P.keep K (by simp), Q.keep K (by simp), ⟨q, H.keep K (by simp)⟩, r, I.keep K (by simp)⟩
theorem own_Node_ch {Z : State} {h h' : Heap} {em t : Addr} {xs : List Addr} {n : Int32} {S : Addr → Int32} (F : own_Node Z h em t xs n) (K : Keep h h' []) (q : S t = n) : own_Ch Z h' S t := by
  obtain ⟨E, -, G, -, -, ⟨q1, H⟩, r, I⟩ := F
  exact ⟨E.keep K, ⟨q1, H.keep K (by simp)⟩, by rw [q]; exact G.keep K (by simp), r, I.keep K (by simp)⟩
theorem own_AL_keepT {Z : State} {h h' : Heap} {de a : Addr} {xs ws : List Addr} {a0 : Array Value} (w : (Jvm.Cond.instantiable "com/example/tributary/tributary/merge/Tree" 18).before a0 Z = true) (F : own_AL Z h de a xs) (K : Keep h h' ws) (q : ∀ y ∈ ws, Exa Z h y "com/example/tributary/tributary/merge/Tree") : own_AL Z h' de a xs := by
  obtain ⟨E, ⟨m, M⟩, S, r⟩ := F
  have na : a ∉ ws := fun hm => E.ne (q a hm) (by decide) rfl
  rcases r with ⟨e, D⟩ | ⟨e, b, k, lt, D, V, O, B⟩
  · exact ⟨E.keep K, ⟨m, M.keep K na⟩, S.keep K na, Or.inl ⟨e, D.keep K na⟩⟩
  · exact ⟨E.keep K, ⟨m, M.keep K na⟩, S.keep K na, Or.inr ⟨e, b, k, lt, D.keep K na, V.keep K (fun hm => (q b hm).neArv V w rfl), O, B.keep K⟩⟩
theorem own_it {xs pre post : List Addr} {ch : Addr} (h : xs = pre ++ ch :: post) (h3 : xs.length ≤ 3) : Int32.ofNat pre.length < Int32.ofNat xs.length ∧ (¬ Int32.ofNat pre.length < 0 ∧ Int32.ofNat pre.length < (10 : Int32)) ∧ (xs.map Value.ref).getD (Int32.ofNat pre.length).toNatClampNeg .null = .ref ch ∧ Int32.ofNat pre.length + (1 : Int32) = Int32.ofNat (pre ++ [ch]).length ∧ own_hn (Int32.ofNat pre.length) (Int32.ofNat xs.length) = 1 := by
  have hl : xs.length = pre.length + 1 + post.length := by rw [h]; simp; omega
  have hat : (xs.map Value.ref).getD pre.length .null = .ref ch := by rw [h]; simp [List.getD_eq_getElem?_getD]
  have hc : (pre ++ [ch]).length = pre.length + 1 := by simp
  rw [hc]
  generalize pre.length = p at *
  generalize post.length = r at *
  have hx : xs.length = p + 1 + r := hl
  have hp : p = 0 ∨ p = 1 ∨ p = 2 := by omega
  have hr : r = 0 ∨ r = 1 ∨ r = 2 := by omega
  rcases hp with rfl | rfl | rfl <;> rcases hr with rfl | rfl | rfl <;> first | (exfalso; omega) | (rw [hx]; exact ⟨by decide, by decide, hat, by decide, by decide⟩)
theorem own_hn0 {xs : List Addr} {pre : List Addr} (h : xs = pre ++ []) : own_hn (Int32.ofNat pre.length) (Int32.ofNat xs.length) = 0 := by
  rw [h, List.append_nil]; exact if_pos rfl
theorem dtri_0 : decode own_k1 0 = .ok (.aload_n 0, 1) := by decide +kernel
theorem dtri_1 : decode own_k1 1 = .ok (.invokespecial 1, 3) := by decide +kernel
theorem dtri_4 : decode own_k1 4 = .ok (.aload_n 0, 1) := by decide +kernel
theorem dtri_5 : decode own_k1 5 = .ok (.aload_n 1, 1) := by decide +kernel
theorem dtri_6 : decode own_k1 6 = .ok (.putfield 7, 3) := by decide +kernel
theorem dtri_9 : decode own_k1 9 = .ok (.aload_n 0, 1) := by decide +kernel
theorem dtri_10 : decode own_k1 10 = .ok (.aload_n 2, 1) := by decide +kernel
theorem dtri_11 : decode own_k1 11 = .ok (.putfield 13, 3) := by decide +kernel
theorem dtri_14 : decode own_k1 14 = .ok (.aload_n 0, 1) := by decide +kernel
theorem dtri_15 : decode own_k1 15 = .ok (.aload_n 3, 1) := by decide +kernel
theorem dtri_16 : decode own_k1 16 = .ok (.putfield 16, 3) := by decide +kernel
theorem dtri_19 : decode own_k1 19 = .ok (.aload_n 0, 1) := by decide +kernel
theorem dtri_20 : decode own_k1 20 = .ok (.aload 4, 2) := by decide +kernel
theorem dtri_22 : decode own_k1 22 = .ok (.putfield 20, 3) := by decide +kernel
theorem dtri_25 : decode own_k1 25 = .ok (.aload_n 0, 1) := by decide +kernel
theorem dtri_26 : decode own_k1 26 = .ok (.aload 5, 2) := by decide +kernel
theorem dtri_28 : decode own_k1 28 = .ok (.putfield 23, 3) := by decide +kernel
theorem dtri_31 : decode own_k1 31 = .ok (.aload_n 0, 1) := by decide +kernel
theorem dtri_32 : decode own_k1 32 = .ok (.aload 6, 2) := by decide +kernel
theorem dtri_34 : decode own_k1 34 = .ok (.invokestatic 26, 3) := by decide +kernel
theorem dtri_37 : decode own_k1 37 = .ok (.putfield 32, 3) := by decide +kernel
theorem dtri_40 : decode own_k1 40 = .ok (.aload_n 0, 1) := by decide +kernel
theorem dtri_41 : decode own_k1 41 = .ok (.aload 7, 2) := by decide +kernel
theorem dtri_43 : decode own_k1 43 = .ok (.invokestatic 26, 3) := by decide +kernel
theorem dtri_46 : decode own_k1 46 = .ok (.putfield 36, 3) := by decide +kernel
theorem dtri_49 : decode own_k1 49 = .ok (.aload_n 0, 1) := by decide +kernel
theorem dtri_50 : decode own_k1 50 = .ok (.iload 8, 2) := by decide +kernel
theorem dtri_52 : decode own_k1 52 = .ok (.putfield 39, 3) := by decide +kernel
theorem dtri_55 : decode own_k1 55 = .ok (.aload_n 0, 1) := by decide +kernel
theorem dtri_56 : decode own_k1 56 = .ok (.iload 9, 2) := by decide +kernel
theorem dtri_58 : decode own_k1 58 = .ok (.putfield 43, 3) := by decide +kernel
theorem dtri_61 : decode own_k1 61 = .ok (.aload_n 0, 1) := by decide +kernel
theorem dtri_62 : decode own_k1 62 = .ok (.aload 10, 2) := by decide +kernel
theorem dtri_64 : decode own_k1 64 = .ok (.putfield 46, 3) := by decide +kernel
theorem dtri_67 : decode own_k1 67 = .ok (.aload_n 0, 1) := by decide +kernel
theorem dtri_68 : decode own_k1 68 = .ok (.iload 11, 2) := by decide +kernel
theorem dtri_70 : decode own_k1 70 = .ok (.putfield 50, 3) := by decide +kernel
theorem dtri_73 : decode own_k1 73 = .ok (.aload_n 0, 1) := by decide +kernel
theorem dtri_74 : decode own_k1 74 = .ok (.iload 12, 2) := by decide +kernel
theorem dtri_76 : decode own_k1 76 = .ok (.putfield 54, 3) := by decide +kernel
theorem dtri_79 : decode own_k1 79 = .ok (.aload_n 0, 1) := by decide +kernel
theorem dtri_80 : decode own_k1 80 = .ok (.aload 13, 2) := by decide +kernel
theorem dtri_82 : decode own_k1 82 = .ok (.invokestatic 26, 3) := by decide +kernel
theorem dtri_85 : decode own_k1 85 = .ok (.putfield 57, 3) := by decide +kernel
theorem dtri_88 : decode own_k1 88 = .ok (.ldc2_w 60, 3) := by decide +kernel
theorem dtri_91 : decode own_k1 91 = .ok (.aload_n 1, 1) := by decide +kernel
theorem dtri_92 : decode own_k1 92 = .ok (.invokestatic 62, 3) := by decide +kernel
theorem dtri_95 : decode own_k1 95 = .ok (.lload 14, 2) := by decide +kernel
theorem dtri_97 : decode own_k1 97 = .ok (.invokestatic 66, 3) := by decide +kernel
theorem dtri_100 : decode own_k1 100 = .ok (.lstore 16, 2) := by decide +kernel
theorem dtri_102 : decode own_k1 102 = .ok (.iconst 1, 1) := by decide +kernel
theorem dtri_103 : decode own_k1 103 = .ok (.istore 18, 2) := by decide +kernel
theorem dtri_105 : decode own_k1 105 = .ok (.iconst 1, 1) := by decide +kernel
theorem dtri_106 : decode own_k1 106 = .ok (.istore 19, 2) := by decide +kernel
theorem dtri_108 : decode own_k1 108 = .ok (.aload 13, 2) := by decide +kernel
theorem dtri_110 : decode own_k1 110 = .ok (.invokeinterface 69 1, 5) := by decide +kernel
theorem dtri_115 : decode own_k1 115 = .ok (.astore 20, 2) := by decide +kernel
theorem dtri_117 : decode own_k1 117 = .ok (.aload 20, 2) := by decide +kernel
theorem dtri_119 : decode own_k1 119 = .ok (.invokeinterface 73 1, 5) := by decide +kernel
theorem dtri_124 : decode own_k1 124 = .ok (.ifCond .eq 54, 3) := by decide +kernel
theorem dtri_127 : decode own_k1 127 = .ok (.aload 20, 2) := by decide +kernel
theorem dtri_129 : decode own_k1 129 = .ok (.invokeinterface 79 1, 5) := by decide +kernel
theorem dtri_134 : decode own_k1 134 = .ok (.checkcast 8, 3) := by decide +kernel
theorem dtri_137 : decode own_k1 137 = .ok (.astore 21, 2) := by decide +kernel
theorem dtri_139 : decode own_k1 139 = .ok (.lload 16, 2) := by decide +kernel
theorem dtri_141 : decode own_k1 141 = .ok (.aload 21, 2) := by decide +kernel
theorem dtri_143 : decode own_k1 143 = .ok (.getfield 83, 3) := by decide +kernel
theorem dtri_146 : decode own_k1 146 = .ok (.invokestatic 66, 3) := by decide +kernel
theorem dtri_149 : decode own_k1 149 = .ok (.lstore 16, 2) := by decide +kernel
theorem dtri_151 : decode own_k1 151 = .ok (.iload 18, 2) := by decide +kernel
theorem dtri_153 : decode own_k1 153 = .ok (.aload 21, 2) := by decide +kernel
theorem dtri_155 : decode own_k1 155 = .ok (.getfield 87, 3) := by decide +kernel
theorem dtri_158 : decode own_k1 158 = .ok (.iadd, 1) := by decide +kernel
theorem dtri_159 : decode own_k1 159 = .ok (.istore 18, 2) := by decide +kernel
theorem dtri_161 : decode own_k1 161 = .ok (.iload 19, 2) := by decide +kernel
theorem dtri_163 : decode own_k1 163 = .ok (.aload 21, 2) := by decide +kernel
theorem dtri_165 : decode own_k1 165 = .ok (.getfield 90, 3) := by decide +kernel
theorem dtri_168 : decode own_k1 168 = .ok (.iconst 1, 1) := by decide +kernel
theorem dtri_169 : decode own_k1 169 = .ok (.iadd, 1) := by decide +kernel
theorem dtri_170 : decode own_k1 170 = .ok (.invokestatic 93, 3) := by decide +kernel
theorem dtri_173 : decode own_k1 173 = .ok (.istore 19, 2) := by decide +kernel
theorem dtri_175 : decode own_k1 175 = .ok (.goto (-58), 3) := by decide +kernel
theorem dtri_178 : decode own_k1 178 = .ok (.aload_n 0, 1) := by decide +kernel
theorem dtri_179 : decode own_k1 179 = .ok (.lload 16, 2) := by decide +kernel
theorem dtri_181 : decode own_k1 181 = .ok (.putfield 83, 3) := by decide +kernel
theorem dtri_184 : decode own_k1 184 = .ok (.aload_n 0, 1) := by decide +kernel
theorem dtri_185 : decode own_k1 185 = .ok (.iload 18, 2) := by decide +kernel
theorem dtri_187 : decode own_k1 187 = .ok (.putfield 87, 3) := by decide +kernel
theorem dtri_190 : decode own_k1 190 = .ok (.aload_n 0, 1) := by decide +kernel
theorem dtri_191 : decode own_k1 191 = .ok (.iload 19, 2) := by decide +kernel
theorem dtri_193 : decode own_k1 193 = .ok (.putfield 90, 3) := by decide +kernel
theorem dtri_196 : decode own_k1 196 = .ok (.return_, 1) := by decide +kernel
theorem pd__JLjava_lang_String__J : parseMethodDescriptor "(JLjava/lang/String;)J" = some ⟨[.long, (.object "java/lang/String")], some .long⟩ := by decide +kernel
theorem pd__JJ_J : parseMethodDescriptor "(JJ)J" = some ⟨[.long, .long], some .long⟩ := by decide +kernel
theorem pd___Ljava_util_Iterator_ : parseMethodDescriptor "()Ljava/util/Iterator;" = some ⟨[], some (.object "java/util/Iterator")⟩ := by decide +kernel
theorem pd___Ljava_lang_Object_ : parseMethodDescriptor "()Ljava/lang/Object;" = some ⟨[], some (.object "java/lang/Object")⟩ := by decide +kernel
theorem ef_tri (m : MethodId) (t1 : Addr) (s1 : Addr) (r1 : Addr) (r2 : Addr) (a1 : Addr) : entryFrame m #[(.ref t1), (.ref s1), .null, .null, .null, .null, (.ref r1), (.ref r2), (.int (0 : Int32)), (.int (0 : Int32)), .null, (.int (0 : Int32)), (.int (0 : Int32)), (.ref a1), (.long (0 : Int64))] 22 = (mkF m 0 #[own_r t1, own_r s1, .val .null, .val .null, .val .null, .val .null, own_r r1, own_r r2, .val (.int (0 : Int32)), .val (.int (0 : Int32)), .val .null, .val (.int (0 : Int32)), .val (.int (0 : Int32)), own_r a1, .val (.long (0 : Int64)), .second, .unset, .unset, .unset, .unset, .unset, .unset] []) := by first | (simp [entryFrame, mkF, argsToLocals, Value.category]; done) | rfl
def Q_tri (Z : State) (t1 s1 bv r1 r2 a1 em el mr de : Addr) (k : ClassId) (xs : List Addr) (S : Addr → Int32) (h0 : Heap) (n0 : Nat) (v : Option Value) (h : Heap) (L : List Loc) : Prop := v = none ∧ Fr n0 L ∧ Keep h0 h [t1] ∧ own_Node Z h em t1 xs (own_fold S 1 xs)
theorem rs_tri_1 (l : Launch) (Z : State) (a0 : Array Value) (hw : own_W a0 Z) (ws : List Jvm.Cond) (t1 s1 bv r1 r2 a1 em el mr de : Addr) (k : ClassId) (xs : List Addr) (S : Addr → Int32) (h0 : Heap) (n0 : Nat) (g_t1 : n0 ≤ t1) (wT : (Jvm.Cond.instantiable "com/example/tributary/tributary/merge/Tree" 18).before a0 Z = true) (tE : ∀ y ∈ [t1], Exa Z h0 y "com/example/tributary/tributary/merge/Tree") (HC : ∀ x ∈ xs, own_Ch Z h0 S x) (hct : ∀ x ∈ xs, x ≠ t1) (h3 : xs.length ≤ 3) (EA : Exa Z h0 a1 "java/util/ArrayList") (D1 : (xs = [] ∧ Fld Z h0 a1 "java/util/ArrayList" "elementData" "[Ljava/lang/Object;" (.ref de)) ∨ (xs ≠ [] ∧ ∃ b k, a1 < b ∧ Fld Z h0 a1 "java/util/ArrayList" "elementData" "[Ljava/lang/Object;" (.ref b) ∧ Arv Z h0 b k (.object "java/lang/Object") (10 : Int32) (xs.map Value.ref) .null ∧ Ovr Z k "java/lang/Object" ∧ Exa Z h0 b "[Ljava/lang/Object;")) {p e s m below meth c s₁} (Bd : BodyLoose p l own_y21 (head1 (Jvm.Cond.code own_y21 prog_45_method_1_code 22 none :: ws) (⟨9, 10, 28, 120⟩ : Room)) prog_45_method_1_code 22 none e s m #[(.ref t1), (.ref s1), .null, .null, .null, .null, (.ref r1), (.ref r2), (.int (0 : Int32)), (.int (0 : Int32)), .null, (.int (0 : Int32)), (.int (0 : Int32)), (.ref a1), (.long (0 : Int64))] below meth c s₁) (hZ : Z.Warmed39 s.vm) (hml : c.maxLocals = 22) :
    ∀ (post : List Addr) (pre : List Addr) (qh : Int64) (zz : Int32) (ht : Int32) (s21 : Slot) (l1 : Int32) (m1 : Int32) (hK : Heap) (lr62 : Addr) (it75 : Addr) (Tc : State) (Lc0 : List Loc) (hhc : Heap) (Xc : Stand p l e (⟨9, 10, 28, 120⟩ : Room) s m #[(.ref t1), (.ref s1), .null, .null, .null, .null, (.ref r1), (.ref r2), (.int (0 : Int32)), (.int (0 : Int32)), .null, (.int (0 : Int32)), (.int (0 : Int32)), (.ref a1), (.long (0 : Int64))] below meth c Tc Lc0 10 28) (ec : Tc.heap = hhc) (Nc : Fr n0 Lc0) (Zc : n0 ≤ hhc.size) (prec : ∀ t, Steps p.tables e below (Tc.setTop (mkF m 117 #[own_r t1, own_r s1, .val .null, .val .null, .val .null, .val .null, own_r r1, own_r r2, .val (.int (0 : Int32)), .val (.int (0 : Int32)), .val .null, .val (.int (0 : Int32)), .val (.int (0 : Int32)), own_r a1, .val (.long (0 : Int64)), .second, .val (.long qh), .second, own_i zz, own_i ht, own_r it75, s21] [])) t → Steps p.tables e below (s₁.setTop (entryFrame m #[(.ref t1), (.ref s1), .null, .null, .null, .null, (.ref r1), (.ref r2), (.int (0 : Int32)), (.int (0 : Int32)), .null, (.int (0 : Int32)), (.int (0 : Int32)), (.ref a1), (.long (0 : Int64))] 22)) t) (fc1_0 : Exa Z hhc t1 "com/example/tributary/tributary/merge/Tree") (fc1_1 : Fld Z hhc t1 "com/example/tributary/tributary/merge/Tree" "hash" "J" (.long (0 : Int64))) (fc1_2 : Fld Z hhc t1 "com/example/tributary/tributary/merge/Tree" "size" "I" (.int (0 : Int32))) (fc1_3 : Fld Z hhc t1 "com/example/tributary/tributary/merge/Tree" "height" "I" (.int (0 : Int32))) (fc1_4 : Fld Z hhc t1 "com/example/tributary/tributary/merge/Tree" "pre" "I" (.int (0 : Int32))) (fc1_5 : Fld Z hhc t1 "com/example/tributary/tributary/merge/Tree" "parent" "Lcom/example/tributary/tributary/merge/Tree;" .null) (fc1_6 : Fld Z hhc t1 "com/example/tributary/tributary/merge/Tree" "children" "Ljava/util/List;" (.ref lr62)) (fc1_7 : Fld Z hhc a1 "java/util/AbstractList" "modCount" "I" (.int m1)) (fc1_8 : Fld Z hhc a1 "java/util/ArrayList" "size" "I" (.int (Int32.ofNat xs.length))) (fc1_9 : Exa Z hhc it75 "java/util/ArrayList$Itr") (fc1_10 : Fld Z hhc it75 "java/util/ArrayList$Itr" "this$0" "Ljava/util/ArrayList;" (.ref a1)) (fc1_11 : Fld Z hhc it75 "java/util/ArrayList$Itr" "lastRet" "I" (.int l1)) (fc1_12 : Fld Z hhc it75 "java/util/ArrayList$Itr" "expectedModCount" "I" (.int m1)) (fc1_13 : Fld Z hhc it75 "java/util/ArrayList$Itr" "cursor" "I" (.int (Int32.ofNat pre.length))) (ne_t1_a1 : t1 ≠ a1) (ne_t1_it75 : t1 ≠ it75) (ne_a1_it75 : a1 ≠ it75) (g_it75 : n0 ≤ it75) (sz_it75 : h0.size ≤ it75) (Kk : Keep h0 hhc [t1]) (hs21 : s21 = .unset ∨ ∃ x, s21 = own_r x) (hxs : xs = pre ++ post) (htot : own_fold S 1 xs = own_fold S zz post) (K2 : Keep hK hhc [t1]) (Kd : own_Kids Z hK em hK.size lr62 xs) (EtK : Exa Z hK t1 "com/example/tributary/tributary/merge/Tree") (szk_it75 : hK.size ≤ it75),
    ∃ s₂ o, Steps p.tables e below (s₁.setTop (entryFrame m #[(.ref t1), (.ref s1), .null, .null, .null, .null, (.ref r1), (.ref r2), (.int (0 : Int32)), (.int (0 : Int32)), .null, (.int (0 : Int32)), (.int (0 : Int32)), (.ref a1), (.long (0 : Int64))] 22)) s₂ ∧ s₂.status = .running ∧ Ended s₂ below o ∧ ∃ v L, o = .returned v ∧ Q_tri Z t1 s1 bv r1 r2 a1 em el mr de k xs S h0 n0 v s₂.heap L ∧ FrameEnd s o s₂ L (⟨9, 10, 28, 120⟩ : Room).cells (⟨9, 10, 28, 120⟩ : Room).slots := by
  have hx := Bd.exec
  have hby := Bd.bytes
  have hown : s.vm.findClass "com/example/tributary/tributary/merge/Tree" = some m.cls := findClass_of_methodNamed Bd.named
  have hnm := (name_of_methodNamed Bd.named Bd.method).1
  intro post
  induction post with
  | nil =>
    intro pre qh zz ht s21 l1 m1 hK lr62 it75 Tc Lc0 hhc Xc ec Nc Zc prec fc1_0 fc1_1 fc1_2 fc1_3 fc1_4 fc1_5 fc1_6 fc1_7 fc1_8 fc1_9 fc1_10 fc1_11 fc1_12 fc1_13 ne_t1_a1 ne_t1_it75 ne_a1_it75 g_it75 sz_it75 Kk hs21 hxs htot K2 Kd EtK szk_it75
    have pre80 : own_G p e below Tc s₁ _ _ := fun t k => prec t (by
      refine XS.aload Xc.here hx rfl (hb hby dtri_117) rfl rfl ?_
      exact k)
    obtain ⟨cq81, kq81, q81a, q81b, q81c⟩ := isOf hZ ec fc1_9
    obtain ⟨_, _, ⟨T81, L81, kk81, nn81⟩, -, X81, ⟨Lc81, hQ81, l81, y81, z81⟩, st81⟩ := Xc.interfaceBack hx (xi := own_y55) (y := own_y26) hown (mvT hZ (own_h hw 170 rfl)) (mvT hZ (own_h hw 171 rfl)) (mvT hZ (own_h hw 172 rfl)) (mvT hZ (own_h hw 173 rfl)) (mvT hZ (own_h hw 174 rfl)) (mvT hZ (own_h hw 175 rfl)) (mvT hZ (own_h hw 176 rfl)) (mvT hZ (own_h hw 177 rfl)) (by decide) (backOf (W := 0) (rm_hn l Z a0 hw [] it75 a1 (Int32.ofNat pre.length) (Int32.ofNat xs.length) hhc n0 Zc fc1_10 fc1_13 fc1_8) hZ (own_h hw 178 rfl) (own_h hw 156 rfl) (by decide) (by decide)) q81a q81b q81c (g := (mkF m 119 #[own_r t1, own_r s1, .val .null, .val .null, .val .null, .val .null, own_r r1, own_r r2, .val (.int (0 : Int32)), .val (.int (0 : Int32)), .val .null, .val (.int (0 : Int32)), .val (.int (0 : Int32)), own_r a1, .val (.long (0 : Int64)), .second, .val (.long qh), .second, own_i zz, own_i ht, own_r it75, s21] [(.ref it75)])) rfl (by rw [hml]; rfl) (Steps.refl _) (argsL := []) (rest := []) (lenOf pd___Z rfl) rfl (by show 2 * 0 + _ ≤ _; exact Nat.le_of_eq rfl) (hb hby dtri_119) (fun _ _ => ⟨rfl, ec, (by decide : 10 + 0 ≤ _), (by decide : 28 + 0 ≤ _)⟩)
    dsimp only [Pt.U, Pt.locs, Pt.cells, Pt.slots] at X81 l81 y81 z81 st81 hQ81
    subst l81 y81 z81
    obtain ⟨rfl, N81q, eq81⟩ := hQ81
    have N81 := Fr.app Nc N81q
    clear q81a q81b q81c N81q
    have pre82 : own_G p e below T81 s₁ _ _ := fun t k => pre80 t (by
      refine st81.trans ?_
      show Steps p.tables e below (T81.setTop (mkF m 124 #[own_r t1, own_r s1, .val .null, .val .null, .val .null, .val .null, own_r r1, own_r r2, .val (.int (0 : Int32)), .val (.int (0 : Int32)), .val .null, .val (.int (0 : Int32)), .val (.int (0 : Int32)), own_r a1, .val (.long (0 : Int64)), .second, .val (.long qh), .second, own_i zz, own_i ht, own_r it75, s21] [(.int (own_hn (Int32.ofNat pre.length) (Int32.ofNat xs.length)))])) _
      rw [own_hn0 hxs]
      refine XS.ifYes X81.here hx rfl (pc0 := 124) (pc' := 178) rfl (hb hby dtri_124) rfl (XT.i0_eq_t rfl) (by decide) (by decide) ?_
      refine XS.aloadN X81.here hx rfl (hb hby dtri_178) rfl rfl ?_
      refine XT.lload X81.here hx rfl (hb hby dtri_179) rfl ?_
      exact k)
    obtain ⟨T83, h83, X83, e83, W83, st83⟩ := putF X81 hx hZ hown (host := "") (Or.inl (own_h hw 182 rfl)) Via.refl eq81 fc1_1 fc1_0 (Or.inr ⟨(own_h hw 183 rfl), rfl, hnm⟩) (own_h hw 32 rfl) (ty := .long) (by decide) rfl rfl (g := (mkF m 181 #[own_r t1, own_r s1, .val .null, .val .null, .val .null, .val .null, own_r r1, own_r r2, .val (.int (0 : Int32)), .val (.int (0 : Int32)), .val .null, .val (.int (0 : Int32)), .val (.int (0 : Int32)), own_r a1, .val (.long (0 : Int64)), .second, .val (.long qh), .second, own_i zz, own_i ht, own_r it75, s21] [(.long qh), (.ref t1)])) rfl rfl (hb hby dtri_181)
    have F83 := fc1_1.same W83
    have N83 := Fr.snoc X83 N81 g_t1
    have f84_0 := fc1_0.wr W83
    have f84_2 := fc1_2.other W83 (Or.inr (own_sn (own_l185 hw) (own_l183 hw) (by decide)))
    have f84_3 := fc1_3.other W83 (Or.inr (own_sn (own_l187 hw) (own_l183 hw) (by decide)))
    have f84_4 := fc1_4.other W83 (Or.inr (own_sn (own_l330 hw) (own_l183 hw) (by decide)))
    have f84_5 := fc1_5.other W83 (Or.inr (own_sn (own_l349 hw) (own_l183 hw) (by decide)))
    have f84_6 := fc1_6.other W83 (Or.inr (own_sn (own_l100 hw) (own_l183 hw) (by decide)))
    have K85 := Kk.wr W83 (Or.inl (List.mem_of_getElem? (i := 0) rfl))
    have K86 := K2.wr W83 (Or.inl (List.mem_of_getElem? (i := 0) rfl))
    have Z83 : n0 ≤ h83.size := Nat.le_trans Zc (Keep.of_wr W83).1
    have pre87 : own_G p e below T83 s₁ _ _ := fun t k => pre82 t (by
      refine st83 _ ?_
      refine XS.aloadN X83.here hx rfl (hb hby dtri_184) rfl rfl ?_
      refine XS.iload X83.here hx rfl (hb hby dtri_185) rfl ?_
      exact k)
    obtain ⟨T88, h88, X88, e88, W88, st88⟩ := putF X83 hx hZ hown (host := "") (Or.inl (own_h hw 184 rfl)) Via.refl e83 f84_2 f84_0 (Or.inr ⟨(own_h hw 185 rfl), rfl, hnm⟩) (own_h hw 32 rfl) (ty := .int) (by decide) rfl rfl (g := (mkF m 187 #[own_r t1, own_r s1, .val .null, .val .null, .val .null, .val .null, own_r r1, own_r r2, .val (.int (0 : Int32)), .val (.int (0 : Int32)), .val .null, .val (.int (0 : Int32)), .val (.int (0 : Int32)), own_r a1, .val (.long (0 : Int64)), .second, .val (.long qh), .second, own_i zz, own_i ht, own_r it75, s21] [(.int zz), (.ref t1)])) rfl rfl (hb hby dtri_187)
    have F88 := f84_2.same W88
    have N88 := Fr.snoc X88 N83 g_t1
    have f89_0 := f84_0.wr W88
    have f89_2 := f84_3.other W88 (Or.inr (own_sn (own_l187 hw) (own_l185 hw) (by decide)))
    have f89_3 := f84_4.other W88 (Or.inr (own_sn (own_l330 hw) (own_l185 hw) (by decide)))
    have f89_4 := f84_5.other W88 (Or.inr (own_sn (own_l349 hw) (own_l185 hw) (by decide)))
    have f89_5 := f84_6.other W88 (Or.inr (own_sn (own_l100 hw) (own_l185 hw) (by decide)))
    have f89_6 := F83.other W88 (Or.inr (own_sn (own_l183 hw) (own_l185 hw) (by decide)))
    have K90 := K85.wr W88 (Or.inl (List.mem_of_getElem? (i := 0) rfl))
    have K91 := K86.wr W88 (Or.inl (List.mem_of_getElem? (i := 0) rfl))
    have Z88 : n0 ≤ h88.size := Nat.le_trans Z83 (Keep.of_wr W88).1
    have pre92 : own_G p e below T88 s₁ _ _ := fun t k => pre87 t (by
      refine st88 _ ?_
      refine XS.aloadN X88.here hx rfl (hb hby dtri_190) rfl rfl ?_
      refine XS.iload X88.here hx rfl (hb hby dtri_191) rfl ?_
      exact k)
    obtain ⟨T93, h93, X93, e93, W93, st93⟩ := putF X88 hx hZ hown (host := "") (Or.inl (own_h hw 186 rfl)) Via.refl e88 f89_2 f89_0 (Or.inr ⟨(own_h hw 187 rfl), rfl, hnm⟩) (own_h hw 32 rfl) (ty := .int) (by decide) rfl rfl (g := (mkF m 193 #[own_r t1, own_r s1, .val .null, .val .null, .val .null, .val .null, own_r r1, own_r r2, .val (.int (0 : Int32)), .val (.int (0 : Int32)), .val .null, .val (.int (0 : Int32)), .val (.int (0 : Int32)), own_r a1, .val (.long (0 : Int64)), .second, .val (.long qh), .second, own_i zz, own_i ht, own_r it75, s21] [(.int ht), (.ref t1)])) rfl rfl (hb hby dtri_193)
    have F93 := f89_2.same W93
    have N93 := Fr.snoc X93 N88 g_t1
    have f94_0 := f89_0.wr W93
    have f94_2 := f89_3.other W93 (Or.inr (own_sn (own_l330 hw) (own_l187 hw) (by decide)))
    have f94_3 := f89_4.other W93 (Or.inr (own_sn (own_l349 hw) (own_l187 hw) (by decide)))
    have f94_4 := f89_5.other W93 (Or.inr (own_sn (own_l100 hw) (own_l187 hw) (by decide)))
    have f94_5 := f89_6.other W93 (Or.inr (own_sn (own_l183 hw) (own_l187 hw) (by decide)))
    have f94_6 := F88.other W93 (Or.inr (own_sn (own_l185 hw) (own_l187 hw) (by decide)))
    have K95 := K90.wr W93 (Or.inl (List.mem_of_getElem? (i := 0) rfl))
    have K96 := K91.wr W93 (Or.inl (List.mem_of_getElem? (i := 0) rfl))
    have Z93 : n0 ≤ h93.size := Nat.le_trans Z88 (Keep.of_wr W93).1
    have pre97 : own_G p e below T93 s₁ _ _ := fun t k => pre92 t (by
      refine st93 _ ?_
      exact k)
    obtain ⟨fs, hr, hrun, hended, hW, hsame⟩ := X93.leave (v := none) (fun _ => rfl)
    refine ⟨_, _, pre97 _ ?_, hrun, hended, _, _, rfl, ?_, ⟨_, rfl⟩, hW, hsame.mono (by decide) (by decide)⟩
    · exact X93.returnOut hx Bd.returns (hb hby dtri_196) hr
    · show Q_tri Z t1 s1 bv r1 r2 a1 em el mr de k xs S h0 n0 _ T93.heap _
      rw [e93]
      exact ⟨rfl, N93, K95, f94_0, ⟨lr62, f94_4, own_Kids_le (own_Kids_keep wT Kd K96 (fun y hy => Or.inr (by cases List.mem_singleton.mp hy; exact EtK))) K96.1⟩, by rw [htot]; exact f94_6, f94_2, f94_3, ⟨_, f94_5⟩, _, F93⟩
  | cons ch post ih =>
    intro pre qh zz ht s21 l1 m1 hK lr62 it75 Tc Lc0 hhc Xc ec Nc Zc prec fc1_0 fc1_1 fc1_2 fc1_3 fc1_4 fc1_5 fc1_6 fc1_7 fc1_8 fc1_9 fc1_10 fc1_11 fc1_12 fc1_13 ne_t1_a1 ne_t1_it75 ne_a1_it75 g_it75 sz_it75 Kk hs21 hxs htot K2 Kd EtK szk_it75
    obtain ⟨p1, p2, p3, p4, p5⟩ := own_it hxs h3
    have pre98 : own_G p e below Tc s₁ _ _ := fun t k => prec t (by
      refine XS.aload Xc.here hx rfl (hb hby dtri_117) rfl rfl ?_
      exact k)
    obtain ⟨cq99, kq99, q99a, q99b, q99c⟩ := isOf hZ ec fc1_9
    obtain ⟨_, _, ⟨T99, L99, kk99, nn99⟩, -, X99, ⟨Lc99, hQ99, l99, y99, z99⟩, st99⟩ := Xc.interfaceBack hx (xi := own_y55) (y := own_y26) hown (mvT hZ (own_h hw 170 rfl)) (mvT hZ (own_h hw 171 rfl)) (mvT hZ (own_h hw 172 rfl)) (mvT hZ (own_h hw 173 rfl)) (mvT hZ (own_h hw 174 rfl)) (mvT hZ (own_h hw 175 rfl)) (mvT hZ (own_h hw 176 rfl)) (mvT hZ (own_h hw 177 rfl)) (by decide) (backOf (W := 0) (rm_hn l Z a0 hw [] it75 a1 (Int32.ofNat pre.length) (Int32.ofNat xs.length) hhc n0 Zc fc1_10 fc1_13 fc1_8) hZ (own_h hw 178 rfl) (own_h hw 156 rfl) (by decide) (by decide)) q99a q99b q99c (g := (mkF m 119 #[own_r t1, own_r s1, .val .null, .val .null, .val .null, .val .null, own_r r1, own_r r2, .val (.int (0 : Int32)), .val (.int (0 : Int32)), .val .null, .val (.int (0 : Int32)), .val (.int (0 : Int32)), own_r a1, .val (.long (0 : Int64)), .second, .val (.long qh), .second, own_i zz, own_i ht, own_r it75, s21] [(.ref it75)])) rfl (by rw [hml]; rfl) (Steps.refl _) (argsL := []) (rest := []) (lenOf pd___Z rfl) rfl (by show 2 * 0 + _ ≤ _; exact Nat.le_of_eq rfl) (hb hby dtri_119) (fun _ _ => ⟨rfl, ec, (by decide : 10 + 0 ≤ _), (by decide : 28 + 0 ≤ _)⟩)
    dsimp only [Pt.U, Pt.locs, Pt.cells, Pt.slots] at X99 l99 y99 z99 st99 hQ99
    subst l99 y99 z99
    obtain ⟨rfl, N99q, eq99⟩ := hQ99
    have N99 := Fr.app Nc N99q
    clear q99a q99b q99c N99q
    have pre100 : own_G p e below T99 s₁ _ _ := fun t k => pre98 t (by
      refine st99.trans ?_
      show Steps p.tables e below (T99.setTop (mkF m 124 #[own_r t1, own_r s1, .val .null, .val .null, .val .null, .val .null, own_r r1, own_r r2, .val (.int (0 : Int32)), .val (.int (0 : Int32)), .val .null, .val (.int (0 : Int32)), .val (.int (0 : Int32)), own_r a1, .val (.long (0 : Int64)), .second, .val (.long qh), .second, own_i zz, own_i ht, own_r it75, s21] [(.int (own_hn (Int32.ofNat pre.length) (Int32.ofNat xs.length)))])) _
      rw [p5]
      refine XS.ifNo X99.here hx rfl (hb hby dtri_124) rfl (XT.i0_eq_f (by decide)) ?_
      exact k)
    obtain ⟨b1, k1, F2, V1⟩ : ∃ b k, Fld Z hhc a1 "java/util/ArrayList" "elementData" "[Ljava/lang/Object;" (.ref b) ∧ Arv Z hhc b k (.object "java/lang/Object") (10 : Int32) (xs.map Value.ref) .null := by
      rcases D1 with ⟨e, -⟩ | ⟨-, b, k, -, D, V, -, -⟩
      · rw [hxs] at e; simp at e
      · exact ⟨b, k, D.keep Kk (fun hm => EA.ne (tE a1 hm) (by decide) rfl), V.keep Kk (fun hm => (tE b hm).neArv V wT rfl)⟩
    have ne_it75_b1 : it75 ≠ b1 := Exa.neArv fc1_9 V1 (own_h hw 155 rfl)
    have pre101 : own_G p e below T99 s₁ _ _ := fun t k => pre100 t (by
      refine XS.aload X99.here hx rfl (hb hby dtri_127) rfl rfl ?_
      exact k)
    obtain ⟨cq102, kq102, q102a, q102b, q102c⟩ := isOf hZ eq99 fc1_9
    obtain ⟨_, _, ⟨T102, L102, kk102, nn102⟩, -, X102, ⟨Lc102, hQ102, l102, y102, z102⟩, st102⟩ := X99.interfaceBack hx (xi := (⟨"java/util/Iterator", "next", "()Ljava/lang/Object;"⟩ : MethodName)) (y := own_y41) hown (mvT hZ (own_h hw 281 rfl)) (mvT hZ (own_h hw 282 rfl)) (mvT hZ (own_h hw 283 rfl)) (mvT hZ (own_h hw 284 rfl)) (mvT hZ (own_h hw 285 rfl)) (mvT hZ (own_h hw 286 rfl)) (mvT hZ (own_h hw 287 rfl)) (mvT hZ (own_h hw 177 rfl)) (by decide) (backOf (W := 0) (rm_nx l Z a0 hw [] it75 a1 b1 ch m1 (Int32.ofNat pre.length) (Int32.ofNat (pre ++ [ch]).length) l1 (Int32.ofNat xs.length) (10 : Int32) k1 (xs.map Value.ref) hhc n0 Zc fc1_9 fc1_10 fc1_11 fc1_12 fc1_13 fc1_7 F2 fc1_8 V1 g_it75 ne_a1_it75.symm ne_it75_b1 p1 p2 p3 p4) hZ (own_h hw 288 rfl) (own_h hw 156 rfl) (by decide) (by decide)) q102a q102b q102c (g := (mkF m 129 #[own_r t1, own_r s1, .val .null, .val .null, .val .null, .val .null, own_r r1, own_r r2, .val (.int (0 : Int32)), .val (.int (0 : Int32)), .val .null, .val (.int (0 : Int32)), .val (.int (0 : Int32)), own_r a1, .val (.long (0 : Int64)), .second, .val (.long qh), .second, own_i zz, own_i ht, own_r it75, s21] [(.ref it75)])) rfl (by rw [hml]; rfl) (Steps.refl _) (argsL := []) (rest := []) (lenOf pd___Ljava_lang_Object_ rfl) rfl (by show 2 * 0 + _ ≤ _; exact Nat.le_of_eq rfl) (hb hby dtri_129) (fun _ _ => ⟨rfl, eq99, (by decide : 10 + 0 ≤ _), (by decide : 28 + 0 ≤ _)⟩)
    dsimp only [Pt.U, Pt.locs, Pt.cells, Pt.slots] at X102 l102 y102 z102 st102 hQ102
    subst l102 y102 z102
    obtain ⟨rfl, N102q, Kc102, Fi102, Fr102, Fx102, Fu102⟩ := hQ102
    have N102 := Fr.app N99 N102q
    have f103_0 := fc1_0.keep Kc102
    have f103_1 := fc1_1.keep Kc102 (own_nm1 ne_t1_it75)
    have f103_2 := fc1_2.keep Kc102 (own_nm1 ne_t1_it75)
    have f103_3 := fc1_3.keep Kc102 (own_nm1 ne_t1_it75)
    have f103_4 := fc1_4.keep Kc102 (own_nm1 ne_t1_it75)
    have f103_5 := fc1_5.keep Kc102 (own_nm1 ne_t1_it75)
    have f103_6 := fc1_6.keep Kc102 (own_nm1 ne_t1_it75)
    have f103_7 := fc1_7.keep Kc102 (own_nm1 ne_a1_it75)
    have f103_8 := fc1_8.keep Kc102 (own_nm1 ne_a1_it75)
    have f103_9 := fc1_9.keep Kc102
    have K104 := Kk.trans Kc102 (fun x hx => by cases List.mem_singleton.mp hx; exact (Or.inr sz_it75))
    have K105 := K2.trans Kc102 (fun x hx => by cases List.mem_singleton.mp hx; exact (Or.inr szk_it75))
    have Z102 : n0 ≤ T102.heap.size := Nat.le_trans Zc Kc102.1
    have e102 : T102.heap = T102.heap := rfl
    clear pre98 X99 st99 eq99 N99 pre100 q102a q102b q102c N102q Kc102
    have pre106 : own_G p e below T102 s₁ _ _ := fun t k => pre101 t (by
      refine st102.trans ?_
      exact k)
    have hm : ch ∈ xs := by rw [hxs]; simp
    have nc : ch ∉ [t1] := fun hq => hct ch hm (List.mem_singleton.mp hq)
    obtain ⟨Ec, ⟨qc, Hc⟩, Sc, hc, Ic⟩ := HC ch hm
    have Ec1 := Ec.keep K104
    have Hc1 := Hc.keep K104 nc
    have Sc1 := Sc.keep K104 nc
    have Ic1 := Ic.keep K104 nc
    obtain ⟨T107, X107, e107, st107⟩ := castY X102 hx hZ hown (own_h hw 295 rfl) e102 (Ins.of_exa Ec1 (own_h hw 296 rfl)) (g := (mkF m 134 #[own_r t1, own_r s1, .val .null, .val .null, .val .null, .val .null, own_r r1, own_r r2, .val (.int (0 : Int32)), .val (.int (0 : Int32)), .val .null, .val (.int (0 : Int32)), .val (.int (0 : Int32)), own_r a1, .val (.long (0 : Int64)), .second, .val (.long qh), .second, own_i zz, own_i ht, own_r it75, s21] [(.ref ch)])) rfl rfl (hb hby dtri_134)
    have pre108 : ∀ t, Steps p.tables e below (T107.setTop (mkF m 143 #[own_r t1, own_r s1, .val .null, .val .null, .val .null, .val .null, own_r r1, own_r r2, .val (.int (0 : Int32)), .val (.int (0 : Int32)), .val .null, .val (.int (0 : Int32)), .val (.int (0 : Int32)), own_r a1, .val (.long (0 : Int64)), .second, .val (.long qh), .second, own_i zz, own_i ht, own_r it75, own_r ch] [(.ref ch), (.long qh)])) t → Steps p.tables e below (s₁.setTop (entryFrame m #[(.ref t1), (.ref s1), .null, .null, .null, .null, (.ref r1), (.ref r2), (.int (0 : Int32)), (.int (0 : Int32)), .null, (.int (0 : Int32)), (.int (0 : Int32)), (.ref a1), (.long (0 : Int64))] 22)) t := fun t k => pre106 t (by
      refine st107 _ ?_
      refine XS.astore X107.here hx rfl (hb hby dtri_137) rfl rfl (l' := #[own_r t1, own_r s1, .val .null, .val .null, .val .null, .val .null, own_r r1, own_r r2, .val (.int (0 : Int32)), .val (.int (0 : Int32)), .val .null, .val (.int (0 : Int32)), .val (.int (0 : Int32)), own_r a1, .val (.long (0 : Int64)), .second, .val (.long qh), .second, own_i zz, own_i ht, own_r it75, own_r ch]) (by rcases hs21 with rfl | ⟨_, rfl⟩ <;> rfl) ?_
      refine XT.lload X107.here hx rfl (hb hby dtri_139) rfl ?_
      refine XS.aload X107.here hx rfl (hb hby dtri_141) rfl rfl ?_
      exact k)
    obtain ⟨T109, X109, e109, st109⟩ := getF X107 hx hZ hown (host := "") (Or.inl (own_h hw 182 rfl)) Via.refl e107 Hc1 (g := (mkF m 143 #[own_r t1, own_r s1, .val .null, .val .null, .val .null, .val .null, own_r r1, own_r r2, .val (.int (0 : Int32)), .val (.int (0 : Int32)), .val .null, .val (.int (0 : Int32)), .val (.int (0 : Int32)), own_r a1, .val (.long (0 : Int64)), .second, .val (.long qh), .second, own_i zz, own_i ht, own_r it75, own_r ch] [(.ref ch), (.long qh)])) rfl rfl (hb hby dtri_143)
    have pre110 : own_G p e below T109 s₁ _ _ := fun t k => pre108 t (by
      refine st109 _ ?_
      exact k)
    obtain ⟨_, _, ⟨T111, L111, kk111, nn111⟩, -, X111, ⟨Lc111, hQ111, l111, y111, z111⟩, st111⟩ := Jvm.LawKit.callS X109 hx (y := own_y14) hown (mvT hZ (own_h hw 142 rfl)) (mvT hZ (own_h hw 143 rfl)) (mvT hZ (own_h hw 33 rfl)) (mvT hZ (own_h hw 144 rfl)) (by decide) (backOf (W := 0) (rm_mxj l Z a0 hw [] qh qc T102.heap n0 Z102 ) hZ (own_h hw 144 rfl) (own_h hw 33 rfl) (by decide) (by decide)) (g := (mkF m 146 #[own_r t1, own_r s1, .val .null, .val .null, .val .null, .val .null, own_r r1, own_r r2, .val (.int (0 : Int32)), .val (.int (0 : Int32)), .val .null, .val (.int (0 : Int32)), .val (.int (0 : Int32)), own_r a1, .val (.long (0 : Int64)), .second, .val (.long qh), .second, own_i zz, own_i ht, own_r it75, own_r ch] [(.long qc), (.long qh)])) rfl (by rw [hml]; rfl) (argsL := [(.long qh), (.long qc)]) (rest := []) (lenOf pd__JJ_J rfl) rfl (by show 2 * 0 + _ ≤ _; exact Nat.le_of_eq rfl) (hb hby dtri_146) (fun _ _ => ⟨rfl, e109, (by decide : 10 + 0 ≤ _), (by decide : 28 + 0 ≤ _)⟩)
    dsimp only [Pt.U, Pt.locs, Pt.cells, Pt.slots] at X111 l111 y111 z111 st111 hQ111
    subst l111 y111 z111
    obtain ⟨q111, rfl, N111q, eq111⟩ := hQ111
    have N111 := Fr.app N102 N111q
    clear pre101 X102 st102 N102 e102 pre106 X107 e107 st107 pre108 X109 e109 st109 N111q
    have pre112 : own_G p e below T111 s₁ _ _ := fun t k => pre110 t (by
      refine st111 _ ?_
      refine XT.lstore X111.here hx rfl (hb hby dtri_149) rfl (l' := #[own_r t1, own_r s1, .val .null, .val .null, .val .null, .val .null, own_r r1, own_r r2, .val (.int (0 : Int32)), .val (.int (0 : Int32)), .val .null, .val (.int (0 : Int32)), .val (.int (0 : Int32)), own_r a1, .val (.long (0 : Int64)), .second, .val (.long q111), .second, own_i zz, own_i ht, own_r it75, own_r ch]) rfl ?_
      refine XS.iload X111.here hx rfl (hb hby dtri_151) rfl ?_
      refine XS.aload X111.here hx rfl (hb hby dtri_153) rfl rfl ?_
      exact k)
    obtain ⟨T113, X113, e113, st113⟩ := getF X111 hx hZ hown (host := "") (Or.inl (own_h hw 184 rfl)) Via.refl eq111 Sc1 (g := (mkF m 155 #[own_r t1, own_r s1, .val .null, .val .null, .val .null, .val .null, own_r r1, own_r r2, .val (.int (0 : Int32)), .val (.int (0 : Int32)), .val .null, .val (.int (0 : Int32)), .val (.int (0 : Int32)), own_r a1, .val (.long (0 : Int64)), .second, .val (.long q111), .second, own_i zz, own_i ht, own_r it75, own_r ch] [(.ref ch), (.int zz)])) rfl rfl (hb hby dtri_155)
    have pre114 : own_G p e below T113 s₁ _ _ := fun t k => pre112 t (by
      refine st113 _ ?_
      refine XS.iadd X113.here hx rfl (hb hby dtri_158) rfl ?_
      refine XS.istore X113.here hx rfl (hb hby dtri_159) rfl (l' := #[own_r t1, own_r s1, .val .null, .val .null, .val .null, .val .null, own_r r1, own_r r2, .val (.int (0 : Int32)), .val (.int (0 : Int32)), .val .null, .val (.int (0 : Int32)), .val (.int (0 : Int32)), own_r a1, .val (.long (0 : Int64)), .second, .val (.long q111), .second, .val (.int (zz + (S ch))), own_i ht, own_r it75, own_r ch]) rfl ?_
      refine XS.iload X113.here hx rfl (hb hby dtri_161) rfl ?_
      refine XS.aload X113.here hx rfl (hb hby dtri_163) rfl rfl ?_
      exact k)
    obtain ⟨T115, X115, e115, st115⟩ := getF X113 hx hZ hown (host := "") (Or.inl (own_h hw 186 rfl)) Via.refl e113 Ic1 (g := (mkF m 165 #[own_r t1, own_r s1, .val .null, .val .null, .val .null, .val .null, own_r r1, own_r r2, .val (.int (0 : Int32)), .val (.int (0 : Int32)), .val .null, .val (.int (0 : Int32)), .val (.int (0 : Int32)), own_r a1, .val (.long (0 : Int64)), .second, .val (.long q111), .second, .val (.int (zz + (S ch))), own_i ht, own_r it75, own_r ch] [(.ref ch), (.int ht)])) rfl rfl (hb hby dtri_165)
    have pre116 : own_G p e below T115 s₁ _ _ := fun t k => pre114 t (by
      refine st115 _ ?_
      refine XS.iconst X115.here hx rfl (hb hby dtri_168) ?_
      refine XS.iadd X115.here hx rfl (hb hby dtri_169) rfl ?_
      exact k)
    obtain ⟨_, _, ⟨T117, L117, kk117, nn117⟩, -, X117, ⟨Lc117, hQ117, l117, y117, z117⟩, st117⟩ := Jvm.LawKit.callS X115 hx (y := own_y17) hown (mvT hZ (own_h hw 297 rfl)) (mvT hZ (own_h hw 210 rfl)) (mvT hZ (own_h hw 211 rfl)) (mvT hZ (own_h hw 212 rfl)) (by decide) (backOf (W := 0) (rm_max l Z a0 hw [] ht (hc + (1 : Int32)) T102.heap n0 Z102 ) hZ (own_h hw 212 rfl) (own_h hw 211 rfl) (by decide) (by decide)) (g := (mkF m 170 #[own_r t1, own_r s1, .val .null, .val .null, .val .null, .val .null, own_r r1, own_r r2, .val (.int (0 : Int32)), .val (.int (0 : Int32)), .val .null, .val (.int (0 : Int32)), .val (.int (0 : Int32)), own_r a1, .val (.long (0 : Int64)), .second, .val (.long q111), .second, .val (.int (zz + (S ch))), own_i ht, own_r it75, own_r ch] [(.int (hc + (1 : Int32))), (.int ht)])) rfl (by rw [hml]; rfl) (argsL := [(.int ht), (.int (hc + (1 : Int32)))]) (rest := []) (lenOf pd__II_I rfl) rfl (by show 2 * 0 + _ ≤ _; exact Nat.le_of_eq rfl) (hb hby dtri_170) (fun _ _ => ⟨rfl, e115, (by decide : 10 + 0 ≤ _), (by decide : 28 + 0 ≤ _)⟩)
    dsimp only [Pt.U, Pt.locs, Pt.cells, Pt.slots] at X117 l117 y117 z117 st117 hQ117
    subst l117 y117 z117
    obtain ⟨rfl, N117q, eq117⟩ := hQ117
    have N117 := Fr.app N111 N117q
    clear pre110 X111 st111 eq111 N111 pre112 X113 e113 st113 pre114 X115 e115 st115 N117q
    have pre118 : own_G p e below T117 s₁ _ _ := fun t k => pre116 t (by
      refine st117 _ ?_
      refine XS.istore X117.here hx rfl (hb hby dtri_173) rfl (l' := #[own_r t1, own_r s1, .val .null, .val .null, .val .null, .val .null, own_r r1, own_r r2, .val (.int (0 : Int32)), .val (.int (0 : Int32)), .val .null, .val (.int (0 : Int32)), .val (.int (0 : Int32)), own_r a1, .val (.long (0 : Int64)), .second, .val (.long q111), .second, .val (.int (zz + (S ch))), .val (.int (own_max ht (hc + (1 : Int32)))), own_r it75, own_r ch]) rfl ?_
      refine XS.goto X117.here hx rfl (pc0 := 175) (pc' := 117) rfl (hb hby dtri_175) (by decide) (by decide) ?_
      exact k)
    exact ih ((pre ++ [ch])) q111 ((zz + (S ch))) ((own_max ht (hc + (1 : Int32)))) ((own_r ch)) ((Int32.ofNat pre.length)) m1 hK lr62 it75 T117 _ T102.heap X117 eq117 N117 Z102 pre118 f103_0 f103_1 f103_2 f103_3 f103_4 f103_5 f103_6 f103_7 f103_8 f103_9 Fi102 Fr102 Fx102 Fu102 ne_t1_a1 ne_t1_it75 ne_a1_it75 g_it75 sz_it75 K104 ((Or.inr ⟨ch, rfl⟩)) ((by rw [hxs]; simp)) ((by rw [htot]; rfl)) K105 Kd EtK szk_it75
theorem rm_tri (l : Launch) (Z : State) (a0 : Array Value) (hw : own_W a0 Z) (ws : List Jvm.Cond) (t1 s1 bv r1 r2 a1 em el mr de : Addr) (k : ClassId) (xs : List Addr) (S : Addr → Int32) (h0 : Heap) (n0 : Nat) (Z0 : n0 ≤ h0.size) (SEM : Sta Z h0 "java/util/ImmutableCollections" "EMPTY" "Ljava/lang/Object;" (.ref em)) (EM : Exa Z h0 em "java/lang/Object") (SEL : Sta Z h0 "java/util/ImmutableCollections" "EMPTY_LIST" "Ljava/util/ImmutableCollections$ListN;" (.ref el)) (KE : own_Kids Z h0 em h0.size el []) (M1 : Mir Z "[Ljava/lang/Object;" mr) {cz : Int32} (SC : Sta Z h0 "java/lang/String" "COMPACT_STRINGS" "Z" (.int cz)) (hcz : ¬ cz = 0) {vf : Value} (SF : Sta Z h0 "jdk/internal/util/Preconditions" "SIOOBE_FORMATTER" "Ljava/util/function/BiFunction;" vf) (hvf : vf.isRef = true) (Et : Exa Z h0 t1 "com/example/tributary/tributary/merge/Tree") (Ft_label : Fld Z h0 t1 "com/example/tributary/tributary/merge/Tree" "label" "Ljava/lang/String;" .null) (Ft_key : Fld Z h0 t1 "com/example/tributary/tributary/merge/Tree" "key" "Ljava/lang/String;" .null) (Ft_defines : Fld Z h0 t1 "com/example/tributary/tributary/merge/Tree" "defines" "Lcom/example/tributary/tributary/merge/Symbol;" .null) (Ft_declares : Fld Z h0 t1 "com/example/tributary/tributary/merge/Tree" "declares" "Ljava/lang/String;" .null) (Ft_name : Fld Z h0 t1 "com/example/tributary/tributary/merge/Tree" "name" "Ljava/lang/String;" .null) (Ft_refers : Fld Z h0 t1 "com/example/tributary/tributary/merge/Tree" "refers" "Ljava/util/List;" .null) (Ft_locals : Fld Z h0 t1 "com/example/tributary/tributary/merge/Tree" "locals" "Ljava/util/List;" .null) (Ft_element : Fld Z h0 t1 "com/example/tributary/tributary/merge/Tree" "element" "Z" (.int (0 : Int32))) (Ft_catchesChecked : Fld Z h0 t1 "com/example/tributary/tributary/merge/Tree" "catchesChecked" "Z" (.int (0 : Int32))) (Ft_code : Fld Z h0 t1 "com/example/tributary/tributary/merge/Tree" "code" "Lcom/example/tributary/tributary/merge/Code;" .null) (Ft_from : Fld Z h0 t1 "com/example/tributary/tributary/merge/Tree" "from" "I" (.int (0 : Int32))) (Ft_to : Fld Z h0 t1 "com/example/tributary/tributary/merge/Tree" "to" "I" (.int (0 : Int32))) (Ft_children : Fld Z h0 t1 "com/example/tributary/tributary/merge/Tree" "children" "Ljava/util/List;" .null) (Ft_hash : Fld Z h0 t1 "com/example/tributary/tributary/merge/Tree" "hash" "J" (.long (0 : Int64))) (Ft_size : Fld Z h0 t1 "com/example/tributary/tributary/merge/Tree" "size" "I" (.int (0 : Int32))) (Ft_height : Fld Z h0 t1 "com/example/tributary/tributary/merge/Tree" "height" "I" (.int (0 : Int32))) (Ft_pre : Fld Z h0 t1 "com/example/tributary/tributary/merge/Tree" "pre" "I" (.int (0 : Int32))) (Ft_parent : Fld Z h0 t1 "com/example/tributary/tributary/merge/Tree" "parent" "Lcom/example/tributary/tributary/merge/Tree;" .null) (g_t1 : n0 ≤ t1) (ES : Exa Z h0 s1 "java/lang/String") (G1 : Fld Z h0 s1 "java/lang/String" "value" "[B" (.ref bv)) (G2 : Fld Z h0 s1 "java/lang/String" "coder" "B" (.int (0 : Int32))) (GV : Arv Z h0 bv k .byte (1 : Int32) [.int (116 : Int32)] (.int (0 : Int32))) (R1 : own_AL Z h0 de r1 []) (R2 : own_AL Z h0 de r2 []) (A1 : own_AL Z h0 de a1 xs) (HC : ∀ x ∈ xs, own_Ch Z h0 S x) (hct : ∀ x ∈ xs, x ≠ t1) (h3 : xs.length ≤ 3)  :
    own_M l Z h0 ws own_y21 prog_45_method_1_code 22 none (⟨9, 10, 28, 120⟩ : Room) #[(.ref t1), (.ref s1), .null, .null, .null, .null, (.ref r1), (.ref r2), (.int (0 : Int32)), (.int (0 : Int32)), .null, (.int (0 : Int32)), (.int (0 : Int32)), (.ref a1), (.long (0 : Int64))] (Q_tri Z t1 s1 bv r1 r2 a1 em el mr de k xs S h0 n0) := by
  refine MetFree.of_bodySF (plainFor_of_name pn_mxj) hisR ?_
  intro p e s m args below meth c s₁ Bd hml0 hP hK
  obtain ⟨rfl, hZ, hh⟩ := hP
  have hx := Bd.exec
  have hby := Bd.bytes
  have hml : c.maxLocals = 22 := hml0
  have hown : s.vm.findClass "com/example/tributary/tributary/merge/Tree" = some m.cls := findClass_of_methodNamed Bd.named
  have hnm := (name_of_methodNamed Bd.named Bd.method).1
  have X0 : Stand p l e (⟨9, 10, 28, 120⟩ : Room) s m #[(.ref t1), (.ref s1), .null, .null, .null, .null, (.ref r1), (.ref r2), (.int (0 : Int32)), (.int (0 : Int32)), .null, (.int (0 : Int32)), (.int (0 : Int32)), (.ref a1), (.long (0 : Int64))] below meth c s₁ [] 0 0 := Stand.of_body Bd
  have e0 : s₁.heap = h0 := by rw [← hh, Bd.state]; rfl
  have N0 := Fr.nil n0
  have pre0 : ∀ t, Steps p.tables e below (s₁.setTop (mkF m 0 #[own_r t1, own_r s1, .val .null, .val .null, .val .null, .val .null, own_r r1, own_r r2, .val (.int (0 : Int32)), .val (.int (0 : Int32)), .val .null, .val (.int (0 : Int32)), .val (.int (0 : Int32)), own_r a1, .val (.long (0 : Int64)), .second, .unset, .unset, .unset, .unset, .unset, .unset] [])) t → Steps p.tables e below (s₁.setTop (entryFrame m #[(.ref t1), (.ref s1), .null, .null, .null, .null, (.ref r1), (.ref r2), (.int (0 : Int32)), (.int (0 : Int32)), .null, (.int (0 : Int32)), (.int (0 : Int32)), (.ref a1), (.long (0 : Int64))] 22)) t := fun t k => castTop (ef_tri m t1 s1 r1 r2 a1) k
  have K2 : Keep h0 h0 [t1] := Keep.refl h0 [t1]
  have wT := (own_h hw 32 rfl)
  have tE : ∀ y ∈ [t1], Exa Z h0 y "com/example/tributary/tributary/merge/Tree" := fun y hy => by cases List.mem_singleton.mp hy; exact Et
  have nsT : ∀ x ∈ [t1], ∀ c : Cell, h0[x]? = some c → c.vm.isStatics = false := fun x hx => own_ns_exa (tE x hx)
  obtain ⟨EA, ⟨m1, F1⟩, F3, D1⟩ := id A1
  have ne_t1_a1 : t1 ≠ a1 := Et.ne EA (by decide)
  have pre3 : own_G p e below s₁ s₁ _ _ := fun t k => pre0 t (by
    refine XS.aloadN X0.here hx rfl (hb hby dtri_0) rfl rfl ?_
    exact k)
  obtain ⟨T4, X4, e4, st4⟩ := initO X0 hx hZ hown (own_h hw 45 rfl) (own_h hw 20 rfl) (own_h hw 21 rfl) e0 (g := (mkF m 1 #[own_r t1, own_r s1, .val .null, .val .null, .val .null, .val .null, own_r r1, own_r r2, .val (.int (0 : Int32)), .val (.int (0 : Int32)), .val .null, .val (.int (0 : Int32)), .val (.int (0 : Int32)), own_r a1, .val (.long (0 : Int64)), .second, .unset, .unset, .unset, .unset, .unset, .unset] [(.ref t1)])) rfl (by rw [hml]; rfl) rfl (hb hby dtri_1) (by decide) (W := 0) (by show 2 * 0 + _ ≤ _; exact Nat.le_of_eq rfl) (by decide)
  have pre5 : own_G p e below T4 s₁ _ _ := fun t k => pre3 t (by
    refine st4 _ ?_
    refine XS.aloadN X4.here hx rfl (hb hby dtri_4) rfl rfl ?_
    refine XS.aloadN X4.here hx rfl (hb hby dtri_5) rfl rfl ?_
    exact k)
  obtain ⟨T6, h6, X6, e6, W6, st6⟩ := putF X4 hx hZ hown (host := "") (Or.inl (own_h hw 46 rfl)) Via.refl e4 Ft_label Et (Or.inr ⟨(own_h hw 47 rfl), rfl, hnm⟩) (own_h hw 32 rfl) (ty := (.object "java/lang/String")) (by decide) rfl rfl (g := (mkF m 6 #[own_r t1, own_r s1, .val .null, .val .null, .val .null, .val .null, own_r r1, own_r r2, .val (.int (0 : Int32)), .val (.int (0 : Int32)), .val .null, .val (.int (0 : Int32)), .val (.int (0 : Int32)), own_r a1, .val (.long (0 : Int64)), .second, .unset, .unset, .unset, .unset, .unset, .unset] [(.ref s1), (.ref t1)])) rfl rfl (hb hby dtri_6)
  have F6 := Ft_label.same W6
  have N6 := Fr.snoc X6 N0 g_t1
  have f7_0 := Et.wr W6
  have f7_2 := Ft_key.other W6 (Or.inr (own_sn (own_l49 hw) (own_l47 hw) (by decide)))
  have f7_3 := Ft_defines.other W6 (Or.inr (own_sn (own_l51 hw) (own_l47 hw) (by decide)))
  have f7_4 := Ft_declares.other W6 (Or.inr (own_sn (own_l53 hw) (own_l47 hw) (by decide)))
  have f7_5 := Ft_name.other W6 (Or.inr (own_sn (own_l55 hw) (own_l47 hw) (by decide)))
  have f7_6 := Ft_refers.other W6 (Or.inr (own_sn (own_l86 hw) (own_l47 hw) (by decide)))
  have f7_7 := Ft_locals.other W6 (Or.inr (own_sn (own_l88 hw) (own_l47 hw) (by decide)))
  have f7_8 := Ft_element.other W6 (Or.inr (own_sn (own_l90 hw) (own_l47 hw) (by decide)))
  have f7_9 := Ft_catchesChecked.other W6 (Or.inr (own_sn (own_l92 hw) (own_l47 hw) (by decide)))
  have f7_10 := Ft_code.other W6 (Or.inr (own_sn (own_l94 hw) (own_l47 hw) (by decide)))
  have f7_11 := Ft_from.other W6 (Or.inr (own_sn (own_l96 hw) (own_l47 hw) (by decide)))
  have f7_12 := Ft_to.other W6 (Or.inr (own_sn (own_l98 hw) (own_l47 hw) (by decide)))
  have f7_13 := Ft_children.other W6 (Or.inr (own_sn (own_l100 hw) (own_l47 hw) (by decide)))
  have f7_14 := Ft_hash.other W6 (Or.inr (own_sn (own_l183 hw) (own_l47 hw) (by decide)))
  have f7_15 := Ft_size.other W6 (Or.inr (own_sn (own_l185 hw) (own_l47 hw) (by decide)))
  have f7_16 := Ft_height.other W6 (Or.inr (own_sn (own_l187 hw) (own_l47 hw) (by decide)))
  have f7_17 := Ft_pre.other W6 (Or.inr (own_sn (own_l330 hw) (own_l47 hw) (by decide)))
  have f7_18 := Ft_parent.other W6 (Or.inr (own_sn (own_l349 hw) (own_l47 hw) (by decide)))
  have K8 := K2.wr W6 (Or.inl (List.mem_of_getElem? (i := 0) rfl))
  have Z6 : n0 ≤ h6.size := Nat.le_trans Z0 (Keep.of_wr W6).1
  have pre9 : own_G p e below T6 s₁ _ _ := fun t k => pre5 t (by
    refine st6 _ ?_
    refine XS.aloadN X6.here hx rfl (hb hby dtri_9) rfl rfl ?_
    refine XS.aloadN X6.here hx rfl (hb hby dtri_10) rfl rfl ?_
    exact k)
  obtain ⟨T10, h10, X10, e10, W10, st10⟩ := putF X6 hx hZ hown (host := "") (Or.inl (own_h hw 48 rfl)) Via.refl e6 f7_2 f7_0 (Or.inr ⟨(own_h hw 49 rfl), rfl, hnm⟩) (own_h hw 32 rfl) (ty := (.object "java/lang/String")) (by decide) rfl rfl (g := (mkF m 11 #[own_r t1, own_r s1, .val .null, .val .null, .val .null, .val .null, own_r r1, own_r r2, .val (.int (0 : Int32)), .val (.int (0 : Int32)), .val .null, .val (.int (0 : Int32)), .val (.int (0 : Int32)), own_r a1, .val (.long (0 : Int64)), .second, .unset, .unset, .unset, .unset, .unset, .unset] [.null, (.ref t1)])) rfl rfl (hb hby dtri_11)
  have F10 := f7_2.same W10
  have N10 := Fr.snoc X10 N6 g_t1
  have f11_0 := f7_0.wr W10
  have f11_2 := f7_3.other W10 (Or.inr (own_sn (own_l51 hw) (own_l49 hw) (by decide)))
  have f11_3 := f7_4.other W10 (Or.inr (own_sn (own_l53 hw) (own_l49 hw) (by decide)))
  have f11_4 := f7_5.other W10 (Or.inr (own_sn (own_l55 hw) (own_l49 hw) (by decide)))
  have f11_5 := f7_6.other W10 (Or.inr (own_sn (own_l86 hw) (own_l49 hw) (by decide)))
  have f11_6 := f7_7.other W10 (Or.inr (own_sn (own_l88 hw) (own_l49 hw) (by decide)))
  have f11_7 := f7_8.other W10 (Or.inr (own_sn (own_l90 hw) (own_l49 hw) (by decide)))
  have f11_8 := f7_9.other W10 (Or.inr (own_sn (own_l92 hw) (own_l49 hw) (by decide)))
  have f11_9 := f7_10.other W10 (Or.inr (own_sn (own_l94 hw) (own_l49 hw) (by decide)))
  have f11_10 := f7_11.other W10 (Or.inr (own_sn (own_l96 hw) (own_l49 hw) (by decide)))
  have f11_11 := f7_12.other W10 (Or.inr (own_sn (own_l98 hw) (own_l49 hw) (by decide)))
  have f11_12 := f7_13.other W10 (Or.inr (own_sn (own_l100 hw) (own_l49 hw) (by decide)))
  have f11_13 := f7_14.other W10 (Or.inr (own_sn (own_l183 hw) (own_l49 hw) (by decide)))
  have f11_14 := f7_15.other W10 (Or.inr (own_sn (own_l185 hw) (own_l49 hw) (by decide)))
  have f11_15 := f7_16.other W10 (Or.inr (own_sn (own_l187 hw) (own_l49 hw) (by decide)))
  have f11_16 := f7_17.other W10 (Or.inr (own_sn (own_l330 hw) (own_l49 hw) (by decide)))
  have f11_17 := f7_18.other W10 (Or.inr (own_sn (own_l349 hw) (own_l49 hw) (by decide)))
  have K12 := K8.wr W10 (Or.inl (List.mem_of_getElem? (i := 0) rfl))
  have Z10 : n0 ≤ h10.size := Nat.le_trans Z6 (Keep.of_wr W10).1
  have pre13 : own_G p e below T10 s₁ _ _ := fun t k => pre9 t (by
    refine st10 _ ?_
    refine XS.aloadN X10.here hx rfl (hb hby dtri_14) rfl rfl ?_
    refine XS.aloadN X10.here hx rfl (hb hby dtri_15) rfl rfl ?_
    exact k)
  obtain ⟨T14, h14, X14, e14, W14, st14⟩ := putF X10 hx hZ hown (host := "") (Or.inl (own_h hw 50 rfl)) Via.refl e10 f11_2 f11_0 (Or.inr ⟨(own_h hw 51 rfl), rfl, hnm⟩) (own_h hw 32 rfl) (ty := (.object "com/example/tributary/tributary/merge/Symbol")) (by decide) rfl rfl (g := (mkF m 16 #[own_r t1, own_r s1, .val .null, .val .null, .val .null, .val .null, own_r r1, own_r r2, .val (.int (0 : Int32)), .val (.int (0 : Int32)), .val .null, .val (.int (0 : Int32)), .val (.int (0 : Int32)), own_r a1, .val (.long (0 : Int64)), .second, .unset, .unset, .unset, .unset, .unset, .unset] [.null, (.ref t1)])) rfl rfl (hb hby dtri_16)
  have F14 := f11_2.same W14
  have N14 := Fr.snoc X14 N10 g_t1
  have f15_0 := f11_0.wr W14
  have f15_2 := f11_3.other W14 (Or.inr (own_sn (own_l53 hw) (own_l51 hw) (by decide)))
  have f15_3 := f11_4.other W14 (Or.inr (own_sn (own_l55 hw) (own_l51 hw) (by decide)))
  have f15_4 := f11_5.other W14 (Or.inr (own_sn (own_l86 hw) (own_l51 hw) (by decide)))
  have f15_5 := f11_6.other W14 (Or.inr (own_sn (own_l88 hw) (own_l51 hw) (by decide)))
  have f15_6 := f11_7.other W14 (Or.inr (own_sn (own_l90 hw) (own_l51 hw) (by decide)))
  have f15_7 := f11_8.other W14 (Or.inr (own_sn (own_l92 hw) (own_l51 hw) (by decide)))
  have f15_8 := f11_9.other W14 (Or.inr (own_sn (own_l94 hw) (own_l51 hw) (by decide)))
  have f15_9 := f11_10.other W14 (Or.inr (own_sn (own_l96 hw) (own_l51 hw) (by decide)))
  have f15_10 := f11_11.other W14 (Or.inr (own_sn (own_l98 hw) (own_l51 hw) (by decide)))
  have f15_11 := f11_12.other W14 (Or.inr (own_sn (own_l100 hw) (own_l51 hw) (by decide)))
  have f15_12 := f11_13.other W14 (Or.inr (own_sn (own_l183 hw) (own_l51 hw) (by decide)))
  have f15_13 := f11_14.other W14 (Or.inr (own_sn (own_l185 hw) (own_l51 hw) (by decide)))
  have f15_14 := f11_15.other W14 (Or.inr (own_sn (own_l187 hw) (own_l51 hw) (by decide)))
  have f15_15 := f11_16.other W14 (Or.inr (own_sn (own_l330 hw) (own_l51 hw) (by decide)))
  have f15_16 := f11_17.other W14 (Or.inr (own_sn (own_l349 hw) (own_l51 hw) (by decide)))
  have K16 := K12.wr W14 (Or.inl (List.mem_of_getElem? (i := 0) rfl))
  have Z14 : n0 ≤ h14.size := Nat.le_trans Z10 (Keep.of_wr W14).1
  have pre17 : own_G p e below T14 s₁ _ _ := fun t k => pre13 t (by
    refine st14 _ ?_
    refine XS.aloadN X14.here hx rfl (hb hby dtri_19) rfl rfl ?_
    refine XS.aload X14.here hx rfl (hb hby dtri_20) rfl rfl ?_
    exact k)
  obtain ⟨T18, h18, X18, e18, W18, st18⟩ := putF X14 hx hZ hown (host := "") (Or.inl (own_h hw 52 rfl)) Via.refl e14 f15_2 f15_0 (Or.inr ⟨(own_h hw 53 rfl), rfl, hnm⟩) (own_h hw 32 rfl) (ty := (.object "java/lang/String")) (by decide) rfl rfl (g := (mkF m 22 #[own_r t1, own_r s1, .val .null, .val .null, .val .null, .val .null, own_r r1, own_r r2, .val (.int (0 : Int32)), .val (.int (0 : Int32)), .val .null, .val (.int (0 : Int32)), .val (.int (0 : Int32)), own_r a1, .val (.long (0 : Int64)), .second, .unset, .unset, .unset, .unset, .unset, .unset] [.null, (.ref t1)])) rfl rfl (hb hby dtri_22)
  have F18 := f15_2.same W18
  have N18 := Fr.snoc X18 N14 g_t1
  have f19_0 := f15_0.wr W18
  have f19_2 := f15_3.other W18 (Or.inr (own_sn (own_l55 hw) (own_l53 hw) (by decide)))
  have f19_3 := f15_4.other W18 (Or.inr (own_sn (own_l86 hw) (own_l53 hw) (by decide)))
  have f19_4 := f15_5.other W18 (Or.inr (own_sn (own_l88 hw) (own_l53 hw) (by decide)))
  have f19_5 := f15_6.other W18 (Or.inr (own_sn (own_l90 hw) (own_l53 hw) (by decide)))
  have f19_6 := f15_7.other W18 (Or.inr (own_sn (own_l92 hw) (own_l53 hw) (by decide)))
  have f19_7 := f15_8.other W18 (Or.inr (own_sn (own_l94 hw) (own_l53 hw) (by decide)))
  have f19_8 := f15_9.other W18 (Or.inr (own_sn (own_l96 hw) (own_l53 hw) (by decide)))
  have f19_9 := f15_10.other W18 (Or.inr (own_sn (own_l98 hw) (own_l53 hw) (by decide)))
  have f19_10 := f15_11.other W18 (Or.inr (own_sn (own_l100 hw) (own_l53 hw) (by decide)))
  have f19_11 := f15_12.other W18 (Or.inr (own_sn (own_l183 hw) (own_l53 hw) (by decide)))
  have f19_12 := f15_13.other W18 (Or.inr (own_sn (own_l185 hw) (own_l53 hw) (by decide)))
  have f19_13 := f15_14.other W18 (Or.inr (own_sn (own_l187 hw) (own_l53 hw) (by decide)))
  have f19_14 := f15_15.other W18 (Or.inr (own_sn (own_l330 hw) (own_l53 hw) (by decide)))
  have f19_15 := f15_16.other W18 (Or.inr (own_sn (own_l349 hw) (own_l53 hw) (by decide)))
  have K20 := K16.wr W18 (Or.inl (List.mem_of_getElem? (i := 0) rfl))
  have Z18 : n0 ≤ h18.size := Nat.le_trans Z14 (Keep.of_wr W18).1
  have pre21 : own_G p e below T18 s₁ _ _ := fun t k => pre17 t (by
    refine st18 _ ?_
    refine XS.aloadN X18.here hx rfl (hb hby dtri_25) rfl rfl ?_
    refine XS.aload X18.here hx rfl (hb hby dtri_26) rfl rfl ?_
    exact k)
  obtain ⟨T22, h22, X22, e22, W22, st22⟩ := putF X18 hx hZ hown (host := "") (Or.inl (own_h hw 54 rfl)) Via.refl e18 f19_2 f19_0 (Or.inr ⟨(own_h hw 55 rfl), rfl, hnm⟩) (own_h hw 32 rfl) (ty := (.object "java/lang/String")) (by decide) rfl rfl (g := (mkF m 28 #[own_r t1, own_r s1, .val .null, .val .null, .val .null, .val .null, own_r r1, own_r r2, .val (.int (0 : Int32)), .val (.int (0 : Int32)), .val .null, .val (.int (0 : Int32)), .val (.int (0 : Int32)), own_r a1, .val (.long (0 : Int64)), .second, .unset, .unset, .unset, .unset, .unset, .unset] [.null, (.ref t1)])) rfl rfl (hb hby dtri_28)
  have F22 := f19_2.same W22
  have N22 := Fr.snoc X22 N18 g_t1
  have f23_0 := f19_0.wr W22
  have f23_2 := f19_3.other W22 (Or.inr (own_sn (own_l86 hw) (own_l55 hw) (by decide)))
  have f23_3 := f19_4.other W22 (Or.inr (own_sn (own_l88 hw) (own_l55 hw) (by decide)))
  have f23_4 := f19_5.other W22 (Or.inr (own_sn (own_l90 hw) (own_l55 hw) (by decide)))
  have f23_5 := f19_6.other W22 (Or.inr (own_sn (own_l92 hw) (own_l55 hw) (by decide)))
  have f23_6 := f19_7.other W22 (Or.inr (own_sn (own_l94 hw) (own_l55 hw) (by decide)))
  have f23_7 := f19_8.other W22 (Or.inr (own_sn (own_l96 hw) (own_l55 hw) (by decide)))
  have f23_8 := f19_9.other W22 (Or.inr (own_sn (own_l98 hw) (own_l55 hw) (by decide)))
  have f23_9 := f19_10.other W22 (Or.inr (own_sn (own_l100 hw) (own_l55 hw) (by decide)))
  have f23_10 := f19_11.other W22 (Or.inr (own_sn (own_l183 hw) (own_l55 hw) (by decide)))
  have f23_11 := f19_12.other W22 (Or.inr (own_sn (own_l185 hw) (own_l55 hw) (by decide)))
  have f23_12 := f19_13.other W22 (Or.inr (own_sn (own_l187 hw) (own_l55 hw) (by decide)))
  have f23_13 := f19_14.other W22 (Or.inr (own_sn (own_l330 hw) (own_l55 hw) (by decide)))
  have f23_14 := f19_15.other W22 (Or.inr (own_sn (own_l349 hw) (own_l55 hw) (by decide)))
  have K24 := K20.wr W22 (Or.inl (List.mem_of_getElem? (i := 0) rfl))
  have Z22 : n0 ≤ h22.size := Nat.le_trans Z18 (Keep.of_wr W22).1
  have pre25 : own_G p e below T22 s₁ _ _ := fun t k => pre21 t (by
    refine st22 _ ?_
    refine XS.aloadN X22.here hx rfl (hb hby dtri_31) rfl rfl ?_
    refine XS.aload X22.here hx rfl (hb hby dtri_32) rfl rfl ?_
    exact k)
  obtain ⟨_, _, ⟨T26, L26, kk26, nn26⟩, -, X26, ⟨Lc26, hQ26, l26, y26, z26⟩, st26⟩ := Jvm.LawKit.callS X22 hx (y := own_y20) hown (mvT hZ (own_h hw 56 rfl)) (mvT hZ (own_h hw 57 rfl)) (mvT hZ (own_h hw 58 rfl)) (mvT hZ (own_h hw 59 rfl)) (by decide) (backOf (W := 1) (rm_cpo l Z a0 hw [] r1 em el mr de [] h22 n0 Z22 (own_sta_keep SEM K24 nsT) (EM.keep K24) (own_sta_keep SEL K24 nsT) (own_Kids_le (own_Kids_keep wT KE K24 (fun y hy => Or.inr (tE y hy))) K24.1) M1 (own_AL_keepT wT R1 K24 tE) (fun x hx => by cases hx) (Nat.zero_le _)) hZ (own_h hw 59 rfl) (own_h hw 58 rfl) (by decide) (by decide)) (g := (mkF m 34 #[own_r t1, own_r s1, .val .null, .val .null, .val .null, .val .null, own_r r1, own_r r2, .val (.int (0 : Int32)), .val (.int (0 : Int32)), .val .null, .val (.int (0 : Int32)), .val (.int (0 : Int32)), own_r a1, .val (.long (0 : Int64)), .second, .unset, .unset, .unset, .unset, .unset, .unset] [(.ref r1), (.ref t1)])) rfl (by rw [hml]; rfl) (argsL := [(.ref r1)]) (rest := [(.ref t1)]) (lenOf pd__Ljava_util_Collection__Ljava_util_List_ rfl) rfl (by show 2 * 0 + _ ≤ _; exact Nat.le_of_eq rfl) (hb hby dtri_34) (fun _ _ => ⟨rfl, e22, (by decide : 0 + 3 ≤ _), (by decide : 0 + 8 ≤ _)⟩)
  dsimp only [Pt.U, Pt.locs, Pt.cells, Pt.slots] at X26 l26 y26 z26 st26 hQ26
  subst l26 y26 z26
  obtain ⟨lr26, rfl, N26q, Kc26, Kd26⟩ := hQ26
  have N26 := Fr.app N22 N26q
  have f27_0 := f23_0.keep Kc26
  have f27_1 := f23_2.keep Kc26 (by simp)
  have f27_2 := f23_3.keep Kc26 (by simp)
  have f27_3 := f23_4.keep Kc26 (by simp)
  have f27_4 := f23_5.keep Kc26 (by simp)
  have f27_5 := f23_6.keep Kc26 (by simp)
  have f27_6 := f23_7.keep Kc26 (by simp)
  have f27_7 := f23_8.keep Kc26 (by simp)
  have f27_8 := f23_9.keep Kc26 (by simp)
  have f27_9 := f23_10.keep Kc26 (by simp)
  have f27_10 := f23_11.keep Kc26 (by simp)
  have f27_11 := f23_12.keep Kc26 (by simp)
  have f27_12 := f23_13.keep Kc26 (by simp)
  have f27_13 := f23_14.keep Kc26 (by simp)
  have K28 := K24.trans Kc26 (fun x hx => by cases hx)
  have Z26 : n0 ≤ T26.heap.size := Nat.le_trans Z22 Kc26.1
  have e26 : T26.heap = T26.heap := rfl
  clear K2 pre3 X4 e4 st4 pre5 X6 e6 W6 st6 F6 N6 f7_0 f7_2 f7_3 f7_4 f7_5 f7_6 f7_7 f7_8 f7_9 f7_10 f7_11 f7_12 f7_13 f7_14 f7_15 f7_16 f7_17 f7_18 K8 Z6 pre9 X10 e10 W10 st10 F10 N10 f11_0 f11_2 f11_3 f11_4 f11_5 f11_6 f11_7 f11_8 f11_9 f11_10 f11_11 f11_12 f11_13 f11_14 f11_15 f11_16 f11_17 K12 Z10 pre13 X14 e14 W14 st14 F14 N14 f15_0 f15_2 f15_3 f15_4 f15_5 f15_6 f15_7 f15_8 f15_9 f15_10 f15_11 f15_12 f15_13 f15_14 f15_15 f15_16 K16 Z14 pre17 X18 e18 W18 st18 F18 N18 f19_0 f19_2 f19_3 f19_4 f19_5 f19_6 f19_7 f19_8 f19_9 f19_10 f19_11 f19_12 f19_13 f19_14 f19_15 K20 Z18 pre21 X22 e22 W22 st22 F22 N22 f23_0 f23_2 f23_3 f23_4 f23_5 f23_6 f23_7 f23_8 f23_9 f23_10 f23_11 f23_12 f23_13 f23_14 K24 Z22 N26q Kc26
  have pre29 : own_G p e below T26 s₁ _ _ := fun t k => pre25 t (by
    refine st26 _ ?_
    exact k)
  obtain ⟨T30, h30, X30, e30, W30, st30⟩ := putF X26 hx hZ hown (host := "") (Or.inl (own_h hw 85 rfl)) Via.refl e26 f27_1 f27_0 (Or.inr ⟨(own_h hw 86 rfl), rfl, hnm⟩) (own_h hw 32 rfl) (ty := (.object "java/util/List")) (by decide) rfl rfl (g := (mkF m 37 #[own_r t1, own_r s1, .val .null, .val .null, .val .null, .val .null, own_r r1, own_r r2, .val (.int (0 : Int32)), .val (.int (0 : Int32)), .val .null, .val (.int (0 : Int32)), .val (.int (0 : Int32)), own_r a1, .val (.long (0 : Int64)), .second, .unset, .unset, .unset, .unset, .unset, .unset] [(.ref lr26), (.ref t1)])) rfl rfl (hb hby dtri_37)
  have F30 := f27_1.same W30
  have N30 := Fr.snoc X30 N26 g_t1
  have f31_0 := f27_0.wr W30
  have f31_2 := f27_2.other W30 (Or.inr (own_sn (own_l88 hw) (own_l86 hw) (by decide)))
  have f31_3 := f27_3.other W30 (Or.inr (own_sn (own_l90 hw) (own_l86 hw) (by decide)))
  have f31_4 := f27_4.other W30 (Or.inr (own_sn (own_l92 hw) (own_l86 hw) (by decide)))
  have f31_5 := f27_5.other W30 (Or.inr (own_sn (own_l94 hw) (own_l86 hw) (by decide)))
  have f31_6 := f27_6.other W30 (Or.inr (own_sn (own_l96 hw) (own_l86 hw) (by decide)))
  have f31_7 := f27_7.other W30 (Or.inr (own_sn (own_l98 hw) (own_l86 hw) (by decide)))
  have f31_8 := f27_8.other W30 (Or.inr (own_sn (own_l100 hw) (own_l86 hw) (by decide)))
  have f31_9 := f27_9.other W30 (Or.inr (own_sn (own_l183 hw) (own_l86 hw) (by decide)))
  have f31_10 := f27_10.other W30 (Or.inr (own_sn (own_l185 hw) (own_l86 hw) (by decide)))
  have f31_11 := f27_11.other W30 (Or.inr (own_sn (own_l187 hw) (own_l86 hw) (by decide)))
  have f31_12 := f27_12.other W30 (Or.inr (own_sn (own_l330 hw) (own_l86 hw) (by decide)))
  have f31_13 := f27_13.other W30 (Or.inr (own_sn (own_l349 hw) (own_l86 hw) (by decide)))
  have K32 := K28.wr W30 (Or.inl (List.mem_of_getElem? (i := 0) rfl))
  have Z30 : n0 ≤ h30.size := Nat.le_trans Z26 (Keep.of_wr W30).1
  have pre33 : own_G p e below T30 s₁ _ _ := fun t k => pre29 t (by
    refine st30 _ ?_
    refine XS.aloadN X30.here hx rfl (hb hby dtri_40) rfl rfl ?_
    refine XS.aload X30.here hx rfl (hb hby dtri_41) rfl rfl ?_
    exact k)
  obtain ⟨_, _, ⟨T34, L34, kk34, nn34⟩, -, X34, ⟨Lc34, hQ34, l34, y34, z34⟩, st34⟩ := Jvm.LawKit.callS X30 hx (y := own_y20) hown (mvT hZ (own_h hw 56 rfl)) (mvT hZ (own_h hw 57 rfl)) (mvT hZ (own_h hw 58 rfl)) (mvT hZ (own_h hw 59 rfl)) (by decide) (backOf (W := 1) (rm_cpo l Z a0 hw [] r2 em el mr de [] h30 n0 Z30 (own_sta_keep SEM K32 nsT) (EM.keep K32) (own_sta_keep SEL K32 nsT) (own_Kids_le (own_Kids_keep wT KE K32 (fun y hy => Or.inr (tE y hy))) K32.1) M1 (own_AL_keepT wT R2 K32 tE) (fun x hx => by cases hx) (Nat.zero_le _)) hZ (own_h hw 59 rfl) (own_h hw 58 rfl) (by decide) (by decide)) (g := (mkF m 43 #[own_r t1, own_r s1, .val .null, .val .null, .val .null, .val .null, own_r r1, own_r r2, .val (.int (0 : Int32)), .val (.int (0 : Int32)), .val .null, .val (.int (0 : Int32)), .val (.int (0 : Int32)), own_r a1, .val (.long (0 : Int64)), .second, .unset, .unset, .unset, .unset, .unset, .unset] [(.ref r2), (.ref t1)])) rfl (by rw [hml]; rfl) (argsL := [(.ref r2)]) (rest := [(.ref t1)]) (lenOf pd__Ljava_util_Collection__Ljava_util_List_ rfl) rfl (by show 2 * 0 + _ ≤ _; exact Nat.le_of_eq rfl) (hb hby dtri_43) (fun _ _ => ⟨rfl, e30, (by decide : 3 + 3 ≤ _), (by decide : 8 + 8 ≤ _)⟩)
  dsimp only [Pt.U, Pt.locs, Pt.cells, Pt.slots] at X34 l34 y34 z34 st34 hQ34
  subst l34 y34 z34
  obtain ⟨lr34, rfl, N34q, Kc34, Kd34⟩ := hQ34
  have N34 := Fr.app N30 N34q
  have f35_0 := f31_0.keep Kc34
  have f35_1 := f31_2.keep Kc34 (by simp)
  have f35_2 := f31_3.keep Kc34 (by simp)
  have f35_3 := f31_4.keep Kc34 (by simp)
  have f35_4 := f31_5.keep Kc34 (by simp)
  have f35_5 := f31_6.keep Kc34 (by simp)
  have f35_6 := f31_7.keep Kc34 (by simp)
  have f35_7 := f31_8.keep Kc34 (by simp)
  have f35_8 := f31_9.keep Kc34 (by simp)
  have f35_9 := f31_10.keep Kc34 (by simp)
  have f35_10 := f31_11.keep Kc34 (by simp)
  have f35_11 := f31_12.keep Kc34 (by simp)
  have f35_12 := f31_13.keep Kc34 (by simp)
  have K36 := K32.trans Kc34 (fun x hx => by cases hx)
  have Z34 : n0 ≤ T34.heap.size := Nat.le_trans Z30 Kc34.1
  have e34 : T34.heap = T34.heap := rfl
  clear pre25 X26 st26 N26 f27_0 f27_1 f27_2 f27_3 f27_4 f27_5 f27_6 f27_7 f27_8 f27_9 f27_10 f27_11 f27_12 f27_13 K28 Z26 e26 pre29 X30 e30 W30 st30 F30 N30 f31_0 f31_2 f31_3 f31_4 f31_5 f31_6 f31_7 f31_8 f31_9 f31_10 f31_11 f31_12 f31_13 K32 Z30 N34q Kc34
  have pre37 : own_G p e below T34 s₁ _ _ := fun t k => pre33 t (by
    refine st34 _ ?_
    exact k)
  obtain ⟨T38, h38, X38, e38, W38, st38⟩ := putF X34 hx hZ hown (host := "") (Or.inl (own_h hw 87 rfl)) Via.refl e34 f35_1 f35_0 (Or.inr ⟨(own_h hw 88 rfl), rfl, hnm⟩) (own_h hw 32 rfl) (ty := (.object "java/util/List")) (by decide) rfl rfl (g := (mkF m 46 #[own_r t1, own_r s1, .val .null, .val .null, .val .null, .val .null, own_r r1, own_r r2, .val (.int (0 : Int32)), .val (.int (0 : Int32)), .val .null, .val (.int (0 : Int32)), .val (.int (0 : Int32)), own_r a1, .val (.long (0 : Int64)), .second, .unset, .unset, .unset, .unset, .unset, .unset] [(.ref lr34), (.ref t1)])) rfl rfl (hb hby dtri_46)
  have F38 := f35_1.same W38
  have N38 := Fr.snoc X38 N34 g_t1
  have f39_0 := f35_0.wr W38
  have f39_2 := f35_2.other W38 (Or.inr (own_sn (own_l90 hw) (own_l88 hw) (by decide)))
  have f39_3 := f35_3.other W38 (Or.inr (own_sn (own_l92 hw) (own_l88 hw) (by decide)))
  have f39_4 := f35_4.other W38 (Or.inr (own_sn (own_l94 hw) (own_l88 hw) (by decide)))
  have f39_5 := f35_5.other W38 (Or.inr (own_sn (own_l96 hw) (own_l88 hw) (by decide)))
  have f39_6 := f35_6.other W38 (Or.inr (own_sn (own_l98 hw) (own_l88 hw) (by decide)))
  have f39_7 := f35_7.other W38 (Or.inr (own_sn (own_l100 hw) (own_l88 hw) (by decide)))
  have f39_8 := f35_8.other W38 (Or.inr (own_sn (own_l183 hw) (own_l88 hw) (by decide)))
  have f39_9 := f35_9.other W38 (Or.inr (own_sn (own_l185 hw) (own_l88 hw) (by decide)))
  have f39_10 := f35_10.other W38 (Or.inr (own_sn (own_l187 hw) (own_l88 hw) (by decide)))
  have f39_11 := f35_11.other W38 (Or.inr (own_sn (own_l330 hw) (own_l88 hw) (by decide)))
  have f39_12 := f35_12.other W38 (Or.inr (own_sn (own_l349 hw) (own_l88 hw) (by decide)))
  have K40 := K36.wr W38 (Or.inl (List.mem_of_getElem? (i := 0) rfl))
  have Z38 : n0 ≤ h38.size := Nat.le_trans Z34 (Keep.of_wr W38).1
  have pre41 : own_G p e below T38 s₁ _ _ := fun t k => pre37 t (by
    refine st38 _ ?_
    refine XS.aloadN X38.here hx rfl (hb hby dtri_49) rfl rfl ?_
    refine XS.iload X38.here hx rfl (hb hby dtri_50) rfl ?_
    exact k)
  obtain ⟨T42, h42, X42, e42, W42, st42⟩ := putF X38 hx hZ hown (host := "") (Or.inl (own_h hw 89 rfl)) Via.refl e38 f39_2 f39_0 (Or.inr ⟨(own_h hw 90 rfl), rfl, hnm⟩) (own_h hw 32 rfl) (ty := .boolean) (by decide) rfl rfl (g := (mkF m 52 #[own_r t1, own_r s1, .val .null, .val .null, .val .null, .val .null, own_r r1, own_r r2, .val (.int (0 : Int32)), .val (.int (0 : Int32)), .val .null, .val (.int (0 : Int32)), .val (.int (0 : Int32)), own_r a1, .val (.long (0 : Int64)), .second, .unset, .unset, .unset, .unset, .unset, .unset] [(.int (0 : Int32)), (.ref t1)])) rfl rfl (hb hby dtri_52)
  have F42 := f39_2.same W42
  have N42 := Fr.snoc X42 N38 g_t1
  have f43_0 := f39_0.wr W42
  have f43_2 := f39_3.other W42 (Or.inr (own_sn (own_l92 hw) (own_l90 hw) (by decide)))
  have f43_3 := f39_4.other W42 (Or.inr (own_sn (own_l94 hw) (own_l90 hw) (by decide)))
  have f43_4 := f39_5.other W42 (Or.inr (own_sn (own_l96 hw) (own_l90 hw) (by decide)))
  have f43_5 := f39_6.other W42 (Or.inr (own_sn (own_l98 hw) (own_l90 hw) (by decide)))
  have f43_6 := f39_7.other W42 (Or.inr (own_sn (own_l100 hw) (own_l90 hw) (by decide)))
  have f43_7 := f39_8.other W42 (Or.inr (own_sn (own_l183 hw) (own_l90 hw) (by decide)))
  have f43_8 := f39_9.other W42 (Or.inr (own_sn (own_l185 hw) (own_l90 hw) (by decide)))
  have f43_9 := f39_10.other W42 (Or.inr (own_sn (own_l187 hw) (own_l90 hw) (by decide)))
  have f43_10 := f39_11.other W42 (Or.inr (own_sn (own_l330 hw) (own_l90 hw) (by decide)))
  have f43_11 := f39_12.other W42 (Or.inr (own_sn (own_l349 hw) (own_l90 hw) (by decide)))
  have K44 := K40.wr W42 (Or.inl (List.mem_of_getElem? (i := 0) rfl))
  have Z42 : n0 ≤ h42.size := Nat.le_trans Z38 (Keep.of_wr W42).1
  have pre45 : own_G p e below T42 s₁ _ _ := fun t k => pre41 t (by
    refine st42 _ ?_
    refine XS.aloadN X42.here hx rfl (hb hby dtri_55) rfl rfl ?_
    refine XS.iload X42.here hx rfl (hb hby dtri_56) rfl ?_
    exact k)
  obtain ⟨T46, h46, X46, e46, W46, st46⟩ := putF X42 hx hZ hown (host := "") (Or.inl (own_h hw 91 rfl)) Via.refl e42 f43_2 f43_0 (Or.inr ⟨(own_h hw 92 rfl), rfl, hnm⟩) (own_h hw 32 rfl) (ty := .boolean) (by decide) rfl rfl (g := (mkF m 58 #[own_r t1, own_r s1, .val .null, .val .null, .val .null, .val .null, own_r r1, own_r r2, .val (.int (0 : Int32)), .val (.int (0 : Int32)), .val .null, .val (.int (0 : Int32)), .val (.int (0 : Int32)), own_r a1, .val (.long (0 : Int64)), .second, .unset, .unset, .unset, .unset, .unset, .unset] [(.int (0 : Int32)), (.ref t1)])) rfl rfl (hb hby dtri_58)
  have F46 := f43_2.same W46
  have N46 := Fr.snoc X46 N42 g_t1
  have f47_0 := f43_0.wr W46
  have f47_2 := f43_3.other W46 (Or.inr (own_sn (own_l94 hw) (own_l92 hw) (by decide)))
  have f47_3 := f43_4.other W46 (Or.inr (own_sn (own_l96 hw) (own_l92 hw) (by decide)))
  have f47_4 := f43_5.other W46 (Or.inr (own_sn (own_l98 hw) (own_l92 hw) (by decide)))
  have f47_5 := f43_6.other W46 (Or.inr (own_sn (own_l100 hw) (own_l92 hw) (by decide)))
  have f47_6 := f43_7.other W46 (Or.inr (own_sn (own_l183 hw) (own_l92 hw) (by decide)))
  have f47_7 := f43_8.other W46 (Or.inr (own_sn (own_l185 hw) (own_l92 hw) (by decide)))
  have f47_8 := f43_9.other W46 (Or.inr (own_sn (own_l187 hw) (own_l92 hw) (by decide)))
  have f47_9 := f43_10.other W46 (Or.inr (own_sn (own_l330 hw) (own_l92 hw) (by decide)))
  have f47_10 := f43_11.other W46 (Or.inr (own_sn (own_l349 hw) (own_l92 hw) (by decide)))
  have K48 := K44.wr W46 (Or.inl (List.mem_of_getElem? (i := 0) rfl))
  have Z46 : n0 ≤ h46.size := Nat.le_trans Z42 (Keep.of_wr W46).1
  have pre49 : own_G p e below T46 s₁ _ _ := fun t k => pre45 t (by
    refine st46 _ ?_
    refine XS.aloadN X46.here hx rfl (hb hby dtri_61) rfl rfl ?_
    refine XS.aload X46.here hx rfl (hb hby dtri_62) rfl rfl ?_
    exact k)
  obtain ⟨T50, h50, X50, e50, W50, st50⟩ := putF X46 hx hZ hown (host := "") (Or.inl (own_h hw 93 rfl)) Via.refl e46 f47_2 f47_0 (Or.inr ⟨(own_h hw 94 rfl), rfl, hnm⟩) (own_h hw 32 rfl) (ty := (.object "com/example/tributary/tributary/merge/Code")) (by decide) rfl rfl (g := (mkF m 64 #[own_r t1, own_r s1, .val .null, .val .null, .val .null, .val .null, own_r r1, own_r r2, .val (.int (0 : Int32)), .val (.int (0 : Int32)), .val .null, .val (.int (0 : Int32)), .val (.int (0 : Int32)), own_r a1, .val (.long (0 : Int64)), .second, .unset, .unset, .unset, .unset, .unset, .unset] [.null, (.ref t1)])) rfl rfl (hb hby dtri_64)
  have F50 := f47_2.same W50
  have N50 := Fr.snoc X50 N46 g_t1
  have f51_0 := f47_0.wr W50
  have f51_2 := f47_3.other W50 (Or.inr (own_sn (own_l96 hw) (own_l94 hw) (by decide)))
  have f51_3 := f47_4.other W50 (Or.inr (own_sn (own_l98 hw) (own_l94 hw) (by decide)))
  have f51_4 := f47_5.other W50 (Or.inr (own_sn (own_l100 hw) (own_l94 hw) (by decide)))
  have f51_5 := f47_6.other W50 (Or.inr (own_sn (own_l183 hw) (own_l94 hw) (by decide)))
  have f51_6 := f47_7.other W50 (Or.inr (own_sn (own_l185 hw) (own_l94 hw) (by decide)))
  have f51_7 := f47_8.other W50 (Or.inr (own_sn (own_l187 hw) (own_l94 hw) (by decide)))
  have f51_8 := f47_9.other W50 (Or.inr (own_sn (own_l330 hw) (own_l94 hw) (by decide)))
  have f51_9 := f47_10.other W50 (Or.inr (own_sn (own_l349 hw) (own_l94 hw) (by decide)))
  have K52 := K48.wr W50 (Or.inl (List.mem_of_getElem? (i := 0) rfl))
  have Z50 : n0 ≤ h50.size := Nat.le_trans Z46 (Keep.of_wr W50).1
  have pre53 : own_G p e below T50 s₁ _ _ := fun t k => pre49 t (by
    refine st50 _ ?_
    refine XS.aloadN X50.here hx rfl (hb hby dtri_67) rfl rfl ?_
    refine XS.iload X50.here hx rfl (hb hby dtri_68) rfl ?_
    exact k)
  obtain ⟨T54, h54, X54, e54, W54, st54⟩ := putF X50 hx hZ hown (host := "") (Or.inl (own_h hw 95 rfl)) Via.refl e50 f51_2 f51_0 (Or.inr ⟨(own_h hw 96 rfl), rfl, hnm⟩) (own_h hw 32 rfl) (ty := .int) (by decide) rfl rfl (g := (mkF m 70 #[own_r t1, own_r s1, .val .null, .val .null, .val .null, .val .null, own_r r1, own_r r2, .val (.int (0 : Int32)), .val (.int (0 : Int32)), .val .null, .val (.int (0 : Int32)), .val (.int (0 : Int32)), own_r a1, .val (.long (0 : Int64)), .second, .unset, .unset, .unset, .unset, .unset, .unset] [(.int (0 : Int32)), (.ref t1)])) rfl rfl (hb hby dtri_70)
  have F54 := f51_2.same W54
  have N54 := Fr.snoc X54 N50 g_t1
  have f55_0 := f51_0.wr W54
  have f55_2 := f51_3.other W54 (Or.inr (own_sn (own_l98 hw) (own_l96 hw) (by decide)))
  have f55_3 := f51_4.other W54 (Or.inr (own_sn (own_l100 hw) (own_l96 hw) (by decide)))
  have f55_4 := f51_5.other W54 (Or.inr (own_sn (own_l183 hw) (own_l96 hw) (by decide)))
  have f55_5 := f51_6.other W54 (Or.inr (own_sn (own_l185 hw) (own_l96 hw) (by decide)))
  have f55_6 := f51_7.other W54 (Or.inr (own_sn (own_l187 hw) (own_l96 hw) (by decide)))
  have f55_7 := f51_8.other W54 (Or.inr (own_sn (own_l330 hw) (own_l96 hw) (by decide)))
  have f55_8 := f51_9.other W54 (Or.inr (own_sn (own_l349 hw) (own_l96 hw) (by decide)))
  have K56 := K52.wr W54 (Or.inl (List.mem_of_getElem? (i := 0) rfl))
  have Z54 : n0 ≤ h54.size := Nat.le_trans Z50 (Keep.of_wr W54).1
  have pre57 : own_G p e below T54 s₁ _ _ := fun t k => pre53 t (by
    refine st54 _ ?_
    refine XS.aloadN X54.here hx rfl (hb hby dtri_73) rfl rfl ?_
    refine XS.iload X54.here hx rfl (hb hby dtri_74) rfl ?_
    exact k)
  obtain ⟨T58, h58, X58, e58, W58, st58⟩ := putF X54 hx hZ hown (host := "") (Or.inl (own_h hw 97 rfl)) Via.refl e54 f55_2 f55_0 (Or.inr ⟨(own_h hw 98 rfl), rfl, hnm⟩) (own_h hw 32 rfl) (ty := .int) (by decide) rfl rfl (g := (mkF m 76 #[own_r t1, own_r s1, .val .null, .val .null, .val .null, .val .null, own_r r1, own_r r2, .val (.int (0 : Int32)), .val (.int (0 : Int32)), .val .null, .val (.int (0 : Int32)), .val (.int (0 : Int32)), own_r a1, .val (.long (0 : Int64)), .second, .unset, .unset, .unset, .unset, .unset, .unset] [(.int (0 : Int32)), (.ref t1)])) rfl rfl (hb hby dtri_76)
  have F58 := f55_2.same W58
  have N58 := Fr.snoc X58 N54 g_t1
  have f59_0 := f55_0.wr W58
  have f59_2 := f55_3.other W58 (Or.inr (own_sn (own_l100 hw) (own_l98 hw) (by decide)))
  have f59_3 := f55_4.other W58 (Or.inr (own_sn (own_l183 hw) (own_l98 hw) (by decide)))
  have f59_4 := f55_5.other W58 (Or.inr (own_sn (own_l185 hw) (own_l98 hw) (by decide)))
  have f59_5 := f55_6.other W58 (Or.inr (own_sn (own_l187 hw) (own_l98 hw) (by decide)))
  have f59_6 := f55_7.other W58 (Or.inr (own_sn (own_l330 hw) (own_l98 hw) (by decide)))
  have f59_7 := f55_8.other W58 (Or.inr (own_sn (own_l349 hw) (own_l98 hw) (by decide)))
  have K60 := K56.wr W58 (Or.inl (List.mem_of_getElem? (i := 0) rfl))
  have Z58 : n0 ≤ h58.size := Nat.le_trans Z54 (Keep.of_wr W58).1
  have pre61 : own_G p e below T58 s₁ _ _ := fun t k => pre57 t (by
    refine st58 _ ?_
    refine XS.aloadN X58.here hx rfl (hb hby dtri_79) rfl rfl ?_
    refine XS.aload X58.here hx rfl (hb hby dtri_80) rfl rfl ?_
    exact k)
  obtain ⟨_, _, ⟨T62, L62, kk62, nn62⟩, -, X62, ⟨Lc62, hQ62, l62, y62, z62⟩, st62⟩ := Jvm.LawKit.callS X58 hx (y := own_y20) hown (mvT hZ (own_h hw 56 rfl)) (mvT hZ (own_h hw 57 rfl)) (mvT hZ (own_h hw 58 rfl)) (mvT hZ (own_h hw 59 rfl)) (by decide) (backOf (W := 1) (rm_cpo l Z a0 hw [] a1 em el mr de xs h58 n0 Z58 (own_sta_keep SEM K60 nsT) (EM.keep K60) (own_sta_keep SEL K60 nsT) (own_Kids_le (own_Kids_keep wT KE K60 (fun y hy => Or.inr (tE y hy))) K60.1) M1 (own_AL_keepT wT A1 K60 tE) (fun x hx => (HC x hx).1.keep K60) h3) hZ (own_h hw 59 rfl) (own_h hw 58 rfl) (by decide) (by decide)) (g := (mkF m 82 #[own_r t1, own_r s1, .val .null, .val .null, .val .null, .val .null, own_r r1, own_r r2, .val (.int (0 : Int32)), .val (.int (0 : Int32)), .val .null, .val (.int (0 : Int32)), .val (.int (0 : Int32)), own_r a1, .val (.long (0 : Int64)), .second, .unset, .unset, .unset, .unset, .unset, .unset] [(.ref a1), (.ref t1)])) rfl (by rw [hml]; rfl) (argsL := [(.ref a1)]) (rest := [(.ref t1)]) (lenOf pd__Ljava_util_Collection__Ljava_util_List_ rfl) rfl (by show 2 * 0 + _ ≤ _; exact Nat.le_of_eq rfl) (hb hby dtri_82) (fun _ _ => ⟨rfl, e58, (by decide : 6 + 3 ≤ _), (by decide : 16 + 8 ≤ _)⟩)
  dsimp only [Pt.U, Pt.locs, Pt.cells, Pt.slots] at X62 l62 y62 z62 st62 hQ62
  subst l62 y62 z62
  obtain ⟨lr62, rfl, N62q, Kc62, Kd62⟩ := hQ62
  have N62 := Fr.app N58 N62q
  have f63_0 := f59_0.keep Kc62
  have f63_1 := f59_2.keep Kc62 (by simp)
  have f63_2 := f59_3.keep Kc62 (by simp)
  have f63_3 := f59_4.keep Kc62 (by simp)
  have f63_4 := f59_5.keep Kc62 (by simp)
  have f63_5 := f59_6.keep Kc62 (by simp)
  have f63_6 := f59_7.keep Kc62 (by simp)
  have K64 := K60.trans Kc62 (fun x hx => by cases hx)
  have Z62 : n0 ≤ T62.heap.size := Nat.le_trans Z58 Kc62.1
  have e62 : T62.heap = T62.heap := rfl
  clear pre33 X34 st34 N34 f35_0 f35_1 f35_2 f35_3 f35_4 f35_5 f35_6 f35_7 f35_8 f35_9 f35_10 f35_11 f35_12 K36 Z34 e34 pre37 X38 e38 W38 st38 F38 N38 f39_0 f39_2 f39_3 f39_4 f39_5 f39_6 f39_7 f39_8 f39_9 f39_10 f39_11 f39_12 K40 Z38 pre41 X42 e42 W42 st42 F42 N42 f43_0 f43_2 f43_3 f43_4 f43_5 f43_6 f43_7 f43_8 f43_9 f43_10 f43_11 K44 Z42 pre45 X46 e46 W46 st46 F46 N46 f47_0 f47_2 f47_3 f47_4 f47_5 f47_6 f47_7 f47_8 f47_9 f47_10 K48 Z46 pre49 X50 e50 W50 st50 F50 N50 f51_0 f51_2 f51_3 f51_4 f51_5 f51_6 f51_7 f51_8 f51_9 K52 Z50 pre53 X54 e54 W54 st54 F54 N54 f55_0 f55_2 f55_3 f55_4 f55_5 f55_6 f55_7 f55_8 K56 Z54 pre57 X58 e58 W58 st58 F58 N58 f59_0 f59_2 f59_3 f59_4 f59_5 f59_6 f59_7 K60 Z58 N62q Kc62
  have Kx : Keep T62.heap T62.heap [t1] := Keep.refl _ _
  have EtK := f63_0
  have pre65 : own_G p e below T62 s₁ _ _ := fun t k => pre61 t (by
    refine st62 _ ?_
    exact k)
  obtain ⟨T66, h66, X66, e66, W66, st66⟩ := putF X62 hx hZ hown (host := "") (Or.inl (own_h hw 99 rfl)) Via.refl e62 f63_1 f63_0 (Or.inr ⟨(own_h hw 100 rfl), rfl, hnm⟩) (own_h hw 32 rfl) (ty := (.object "java/util/List")) (by decide) rfl rfl (g := (mkF m 85 #[own_r t1, own_r s1, .val .null, .val .null, .val .null, .val .null, own_r r1, own_r r2, .val (.int (0 : Int32)), .val (.int (0 : Int32)), .val .null, .val (.int (0 : Int32)), .val (.int (0 : Int32)), own_r a1, .val (.long (0 : Int64)), .second, .unset, .unset, .unset, .unset, .unset, .unset] [(.ref lr62), (.ref t1)])) rfl rfl (hb hby dtri_85)
  have F66 := f63_1.same W66
  have N66 := Fr.snoc X66 N62 g_t1
  have f67_0 := f63_0.wr W66
  have f67_2 := f63_2.other W66 (Or.inr (own_sn (own_l183 hw) (own_l100 hw) (by decide)))
  have f67_3 := f63_3.other W66 (Or.inr (own_sn (own_l185 hw) (own_l100 hw) (by decide)))
  have f67_4 := f63_4.other W66 (Or.inr (own_sn (own_l187 hw) (own_l100 hw) (by decide)))
  have f67_5 := f63_5.other W66 (Or.inr (own_sn (own_l330 hw) (own_l100 hw) (by decide)))
  have f67_6 := f63_6.other W66 (Or.inr (own_sn (own_l349 hw) (own_l100 hw) (by decide)))
  have K68 := K64.wr W66 (Or.inl (List.mem_of_getElem? (i := 0) rfl))
  have K69 := Kx.wr W66 (Or.inl (List.mem_of_getElem? (i := 0) rfl))
  have Z66 : n0 ≤ h66.size := Nat.le_trans Z62 (Keep.of_wr W66).1
  have nS : s1 ∉ [t1] := fun hm => ES.ne (tE s1 hm) (by decide) rfl
  have nB : bv ∉ [t1] := fun hm => (tE bv hm).neArv GV wT rfl
  have pre70 : own_G p e below T66 s₁ _ _ := fun t k => pre65 t (by
    refine st66 _ ?_
    refine X66.ldc2J hx hown (mvT hZ (own_h hw 101 rfl)) rfl (hb hby dtri_88) ?_
    refine XS.aloadN X66.here hx rfl (hb hby dtri_91) rfl rfl ?_
    exact k)
  obtain ⟨_, _, ⟨T71, L71, kk71, nn71⟩, -, X71, ⟨Lc71, hQ71, l71, y71, z71⟩, st71⟩ := Jvm.LawKit.callS X66 hx (y := own_y54) hown (mvT hZ (own_h hw 102 rfl)) (mvT hZ (own_h hw 103 rfl)) (mvT hZ (own_h hw 33 rfl)) (mvT hZ (own_h hw 104 rfl)) (by decide) (backOf (W := 0) (rm_mxs l Z a0 hw [] (-3750763034362895579 : Int64) s1 bv k h66 n0 Z66 (own_sta_keep SC K68 nsT) hcz (own_sta_keep SF K68 nsT) hvf (ES.keep K68) (G1.keep K68 nS) (G2.keep K68 nS) (GV.keep K68 nB)) hZ (own_h hw 104 rfl) (own_h hw 33 rfl) (by decide) (by decide)) (g := (mkF m 92 #[own_r t1, own_r s1, .val .null, .val .null, .val .null, .val .null, own_r r1, own_r r2, .val (.int (0 : Int32)), .val (.int (0 : Int32)), .val .null, .val (.int (0 : Int32)), .val (.int (0 : Int32)), own_r a1, .val (.long (0 : Int64)), .second, .unset, .unset, .unset, .unset, .unset, .unset] [(.ref s1), (.long (-3750763034362895579 : Int64))])) rfl (by rw [hml]; rfl) (argsL := [(.long (-3750763034362895579 : Int64)), (.ref s1)]) (rest := []) (lenOf pd__JLjava_lang_String__J rfl) rfl (by show 2 * 0 + _ ≤ _; exact Nat.le_of_eq rfl) (hb hby dtri_92) (fun _ _ => ⟨rfl, e66, (by decide : 9 + 0 ≤ _), (by decide : 24 + 0 ≤ _)⟩)
  dsimp only [Pt.U, Pt.locs, Pt.cells, Pt.slots] at X71 l71 y71 z71 st71 hQ71
  subst l71 y71 z71
  obtain ⟨q71, rfl, N71q, eq71⟩ := hQ71
  have N71 := Fr.app N66 N71q
  clear pre61 X62 st62 N62 f63_0 f63_1 f63_2 f63_3 f63_4 f63_5 f63_6 K64 Z62 e62 pre65 X66 e66 W66 st66 N66 N71q
  have pre72 : own_G p e below T71 s₁ _ _ := fun t k => pre70 t (by
    refine st71 _ ?_
    refine XT.lload X71.here hx rfl (hb hby dtri_95) rfl ?_
    exact k)
  obtain ⟨_, _, ⟨T73, L73, kk73, nn73⟩, -, X73, ⟨Lc73, hQ73, l73, y73, z73⟩, st73⟩ := Jvm.LawKit.callS X71 hx (y := own_y14) hown (mvT hZ (own_h hw 142 rfl)) (mvT hZ (own_h hw 143 rfl)) (mvT hZ (own_h hw 33 rfl)) (mvT hZ (own_h hw 144 rfl)) (by decide) (backOf (W := 0) (rm_mxj l Z a0 hw [] q71 (0 : Int64) h66 n0 Z66 ) hZ (own_h hw 144 rfl) (own_h hw 33 rfl) (by decide) (by decide)) (g := (mkF m 97 #[own_r t1, own_r s1, .val .null, .val .null, .val .null, .val .null, own_r r1, own_r r2, .val (.int (0 : Int32)), .val (.int (0 : Int32)), .val .null, .val (.int (0 : Int32)), .val (.int (0 : Int32)), own_r a1, .val (.long (0 : Int64)), .second, .unset, .unset, .unset, .unset, .unset, .unset] [(.long (0 : Int64)), (.long q71)])) rfl (by rw [hml]; rfl) (argsL := [(.long q71), (.long (0 : Int64))]) (rest := []) (lenOf pd__JJ_J rfl) rfl (by show 2 * 0 + _ ≤ _; exact Nat.le_of_eq rfl) (hb hby dtri_97) (fun _ _ => ⟨rfl, eq71, (by decide : 9 + 0 ≤ _), (by decide : 24 + 0 ≤ _)⟩)
  dsimp only [Pt.U, Pt.locs, Pt.cells, Pt.slots] at X73 l73 y73 z73 st73 hQ73
  subst l73 y73 z73
  obtain ⟨q73, rfl, N73q, eq73⟩ := hQ73
  have N73 := Fr.app N71 N73q
  clear pre70 X71 st71 eq71 N71 N73q
  have pre74 : own_G p e below T73 s₁ _ _ := fun t k => pre72 t (by
    refine st73 _ ?_
    refine XT.lstore X73.here hx rfl (hb hby dtri_100) rfl (l' := #[own_r t1, own_r s1, .val .null, .val .null, .val .null, .val .null, own_r r1, own_r r2, .val (.int (0 : Int32)), .val (.int (0 : Int32)), .val .null, .val (.int (0 : Int32)), .val (.int (0 : Int32)), own_r a1, .val (.long (0 : Int64)), .second, .val (.long q73), .second, .unset, .unset, .unset, .unset]) rfl ?_
    refine XS.iconst X73.here hx rfl (hb hby dtri_102) ?_
    refine XS.istore X73.here hx rfl (hb hby dtri_103) rfl (l' := #[own_r t1, own_r s1, .val .null, .val .null, .val .null, .val .null, own_r r1, own_r r2, .val (.int (0 : Int32)), .val (.int (0 : Int32)), .val .null, .val (.int (0 : Int32)), .val (.int (0 : Int32)), own_r a1, .val (.long (0 : Int64)), .second, .val (.long q73), .second, .val (.int (1 : Int32)), .unset, .unset, .unset]) rfl ?_
    refine XS.iconst X73.here hx rfl (hb hby dtri_105) ?_
    refine XS.istore X73.here hx rfl (hb hby dtri_106) rfl (l' := #[own_r t1, own_r s1, .val .null, .val .null, .val .null, .val .null, own_r r1, own_r r2, .val (.int (0 : Int32)), .val (.int (0 : Int32)), .val .null, .val (.int (0 : Int32)), .val (.int (0 : Int32)), own_r a1, .val (.long (0 : Int64)), .second, .val (.long q73), .second, .val (.int (1 : Int32)), .val (.int (1 : Int32)), .unset, .unset]) rfl ?_
    refine XS.aload X73.here hx rfl (hb hby dtri_108) rfl rfl ?_
    exact k)
  have nA : a1 ∉ [t1] := fun hm => EA.ne (tE a1 hm) (by decide) rfl
  have EAk := EA.keep K68
  have F1k := F1.keep K68 nA
  have F3k := F3.keep K68 nA
  obtain ⟨cq75, kq75, q75a, q75b, q75c⟩ := isOf hZ eq73 EAk
  obtain ⟨_, _, ⟨T75, L75, kk75, nn75⟩, -, X75, ⟨Lc75, hQ75, l75, y75, z75⟩, st75⟩ := X73.interfaceBack hx (xi := (⟨"java/util/List", "iterator", "()Ljava/util/Iterator;"⟩ : MethodName)) (y := own_y40) hown (mvT hZ (own_h hw 145 rfl)) (mvT hZ (own_h hw 146 rfl)) (mvT hZ (own_h hw 147 rfl)) (mvT hZ (own_h hw 148 rfl)) (mvT hZ (own_h hw 149 rfl)) (mvT hZ (own_h hw 150 rfl)) (mvT hZ (own_h hw 151 rfl)) (mvT hZ (own_h hw 152 rfl)) (by decide) (backOf (W := 0) (rm_itr l Z a0 hw [] a1 m1 h66 n0 Z66 F1k) hZ (own_h hw 153 rfl) (own_h hw 3 rfl) (by decide) (by decide)) q75a q75b q75c (g := (mkF m 110 #[own_r t1, own_r s1, .val .null, .val .null, .val .null, .val .null, own_r r1, own_r r2, .val (.int (0 : Int32)), .val (.int (0 : Int32)), .val .null, .val (.int (0 : Int32)), .val (.int (0 : Int32)), own_r a1, .val (.long (0 : Int64)), .second, .val (.long q73), .second, .val (.int (1 : Int32)), .val (.int (1 : Int32)), .unset, .unset] [(.ref a1)])) rfl (by rw [hml]; rfl) (Steps.refl _) (argsL := []) (rest := []) (lenOf pd___Ljava_util_Iterator_ rfl) rfl (by show 2 * 0 + _ ≤ _; exact Nat.le_of_eq rfl) (hb hby dtri_110) (fun _ _ => ⟨rfl, eq73, (by decide : 9 + 1 ≤ _), (by decide : 24 + 4 ≤ _)⟩)
  dsimp only [Pt.U, Pt.locs, Pt.cells, Pt.slots] at X75 l75 y75 z75 st75 hQ75
  subst l75 y75 z75
  obtain ⟨it75, rfl, N75q, Kc75, g_it75, sit75, ET75, J175, J275, J375, J475⟩ := hQ75
  have N75 := Fr.app N73 N75q
  have f76_0 := f67_0.keep Kc75
  have f76_1 := f67_2.keep Kc75 (by simp)
  have f76_2 := f67_3.keep Kc75 (by simp)
  have f76_3 := f67_4.keep Kc75 (by simp)
  have f76_4 := f67_5.keep Kc75 (by simp)
  have f76_5 := f67_6.keep Kc75 (by simp)
  have f76_6 := F66.keep Kc75 (by simp)
  have f76_7 := EAk.keep Kc75
  have f76_8 := F1k.keep Kc75 (by simp)
  have f76_9 := F3k.keep Kc75 (by simp)
  have K77 := K68.trans Kc75 (fun x hx => by cases hx)
  have K78 := K69.trans Kc75 (fun x hx => by cases hx)
  have Z75 : n0 ≤ T75.heap.size := Nat.le_trans Z66 Kc75.1
  have e75 : T75.heap = T75.heap := rfl
  clear F66 f67_2 f67_3 f67_4 f67_5 f67_6 Z66 pre72 X73 st73 eq73 N73 q75a q75b q75c N75q Kc75
  have ne_t1_it75 : t1 ≠ it75 := Nat.ne_of_lt (Nat.lt_of_lt_of_le f67_0.lt sit75)
  have ne_a1_it75 : a1 ≠ it75 := Nat.ne_of_lt (Nat.lt_of_lt_of_le EAk.lt sit75)
  have sz_it75 : h0.size ≤ it75 := Nat.le_trans K68.1 sit75
  have szk_it75 : T62.heap.size ≤ it75 := Nat.le_trans K69.1 sit75
  have pre79 : own_G p e below T75 s₁ _ _ := fun t k => pre74 t (by
    refine st75.trans ?_
    refine XS.astore X75.here hx rfl (hb hby dtri_115) rfl rfl (l' := #[own_r t1, own_r s1, .val .null, .val .null, .val .null, .val .null, own_r r1, own_r r2, .val (.int (0 : Int32)), .val (.int (0 : Int32)), .val .null, .val (.int (0 : Int32)), .val (.int (0 : Int32)), own_r a1, .val (.long (0 : Int64)), .second, .val (.long q73), .second, .val (.int (1 : Int32)), .val (.int (1 : Int32)), own_r it75, .unset]) rfl ?_
    exact k)
  exact rs_tri_1 l Z a0 hw ws t1 s1 bv r1 r2 a1 em el mr de k xs S h0 n0 g_t1 wT tE HC hct h3 EA D1 Bd hZ hml xs ([]) q73 1 1 .unset ((-1 : Int32)) m1 T62.heap lr62 it75 T75 _ T75.heap X75 e75 N75 Z75 pre79 f76_0 f76_1 f76_2 f76_3 f76_4 f76_5 f76_6 f76_8 f76_9 ET75 J175 J275 J375 J475 ne_t1_a1 ne_t1_it75 ne_a1_it75 g_it75 sz_it75 K77 (Or.inl rfl) rfl rfl K78 Kd62 EtK szk_it75
def own_EL : List (String × Nat) := [("com/example/tributary/tributary/merge/TreeContainsPinLaw", 9)]
theorem own_wS {Z : State} {a0 : Array Value} (hw : own_W a0 Z) : ∀ a ∈ Bundle.stringAtoms, a.before a0 Z = true := fun a ha => by
  simp only [Bundle.stringAtoms, List.mem_cons, List.not_mem_nil, or_false] at ha
  rcases ha with rfl | rfl | rfl | rfl | rfl | rfl | rfl
  · exact own_h hw 35 rfl
  · exact own_h hw 36 rfl
  · exact own_h hw 37 rfl
  · exact own_h hw 38 rfl
  · exact own_h hw 39 rfl
  · exact own_h hw 40 rfl
  · exact own_h hw 41 rfl
theorem own_EW {Z : State} {a0 : Array Value} (hw : own_W a0 Z) : EW Z a0 own_EL := EW.cons (text := "t") (own_h hw 34 rfl) (by first | decide | simp) EW.nil
theorem own_Ch_keep {Z : State} {h h' : Heap} {S : Addr → Int32} {x : Addr} (F : own_Ch Z h S x) (K : Keep h h' []) : own_Ch Z h' S x := by
  obtain ⟨E, ⟨q1, H⟩, G, r, I⟩ := F
  exact ⟨E.keep K, ⟨q1, H.keep K (by simp)⟩, G.keep K (by simp), r, I.keep K (by simp)⟩
theorem dnd_0 : decode own_k11 0 = .ok (.new 7, 3) := by decide +kernel
theorem dnd_3 : decode own_k11 3 = .ok (.dup, 1) := by decide +kernel
theorem dnd_4 : decode own_k11 4 = .ok (.ldc 9, 2) := by decide +kernel
theorem dnd_6 : decode own_k11 6 = .ok (.aconst_null, 1) := by decide +kernel
theorem dnd_7 : decode own_k11 7 = .ok (.aconst_null, 1) := by decide +kernel
theorem dnd_8 : decode own_k11 8 = .ok (.aconst_null, 1) := by decide +kernel
theorem dnd_9 : decode own_k11 9 = .ok (.aconst_null, 1) := by decide +kernel
theorem dnd_10 : decode own_k11 10 = .ok (.new 11, 3) := by decide +kernel
theorem dnd_13 : decode own_k11 13 = .ok (.dup, 1) := by decide +kernel
theorem dnd_14 : decode own_k11 14 = .ok (.invokespecial 13, 3) := by decide +kernel
theorem dnd_17 : decode own_k11 17 = .ok (.new 11, 3) := by decide +kernel
theorem dnd_20 : decode own_k11 20 = .ok (.dup, 1) := by decide +kernel
theorem dnd_21 : decode own_k11 21 = .ok (.invokespecial 13, 3) := by decide +kernel
theorem dnd_24 : decode own_k11 24 = .ok (.iconst 0, 1) := by decide +kernel
theorem dnd_25 : decode own_k11 25 = .ok (.iconst 0, 1) := by decide +kernel
theorem dnd_26 : decode own_k11 26 = .ok (.aconst_null, 1) := by decide +kernel
theorem dnd_27 : decode own_k11 27 = .ok (.iconst 0, 1) := by decide +kernel
theorem dnd_28 : decode own_k11 28 = .ok (.iconst 0, 1) := by decide +kernel
theorem dnd_29 : decode own_k11 29 = .ok (.aload_n 0, 1) := by decide +kernel
theorem dnd_30 : decode own_k11 30 = .ok (.lconst 0, 1) := by decide +kernel
theorem dnd_31 : decode own_k11 31 = .ok (.invokespecial 14, 3) := by decide +kernel
theorem dnd_34 : decode own_k11 34 = .ok (.areturn, 1) := by decide +kernel
theorem pd__Ljava_lang_String_Ljava_lang_String_Lcom_example_tributary_tributary_merge_Symbol_Ljava_lang_String_Ljava_lang_String_Ljava_util_List_Ljava_util_List_ZZLcom_example_tributary_tributary_merge_Code_IILjava_util_List_J_V : parseMethodDescriptor "(Ljava/lang/String;Ljava/lang/String;Lcom/example/tributary/tributary/merge/Symbol;Ljava/lang/String;Ljava/lang/String;Ljava/util/List;Ljava/util/List;ZZLcom/example/tributary/tributary/merge/Code;IILjava/util/List;J)V" = some ⟨[(.object "java/lang/String"), (.object "java/lang/String"), (.object "com/example/tributary/tributary/merge/Symbol"), (.object "java/lang/String"), (.object "java/lang/String"), (.object "java/util/List"), (.object "java/util/List"), .boolean, .boolean, (.object "com/example/tributary/tributary/merge/Code"), .int, .int, (.object "java/util/List"), .long], none⟩ := by decide +kernel
theorem pn_nd : plainName "com/example/tributary/tributary/merge/TreeContainsPinLaw" = true := by first | (simp [plainName, overriddenIn]; done) | decide +kernel
theorem ef_nd (m : MethodId) (a1 : Addr) : entryFrame m #[(.ref a1)] 1 = (mkF m 0 #[own_r a1] []) := by first | (simp [entryFrame, mkF, argsToLocals, Value.category]; done) | rfl
def Q_nd (Z : State) (a1 em el mr de : Addr) (xs : List Addr) (S : Addr → Int32) (h0 : Heap) (n0 : Nat) (v : Option Value) (h : Heap) (L : List Loc) : Prop := ∃ t : Addr, v = some (.ref t) ∧ Fr n0 L ∧ Keep h0 h [] ∧ n0 ≤ t ∧ h0.size ≤ t ∧ own_Node Z h em t xs (own_fold S 1 xs)
theorem rm_nd (l : Launch) (Z : State) (a0 : Array Value) (hw : own_W a0 Z) (ws : List Jvm.Cond) (a1 em el mr de : Addr) (xs : List Addr) (S : Addr → Int32) (h0 : Heap) (n0 : Nat) (Z0 : n0 ≤ h0.size) (SEM : Sta Z h0 "java/util/ImmutableCollections" "EMPTY" "Ljava/lang/Object;" (.ref em)) (EM : Exa Z h0 em "java/lang/Object") (SEL : Sta Z h0 "java/util/ImmutableCollections" "EMPTY_LIST" "Ljava/util/ImmutableCollections$ListN;" (.ref el)) (KE : own_Kids Z h0 em h0.size el []) (M1 : Mir Z "[Ljava/lang/Object;" mr) {cz : Int32} (SC : Sta Z h0 "java/lang/String" "COMPACT_STRINGS" "Z" (.int cz)) (hcz : ¬ cz = 0) {vf : Value} (SF : Sta Z h0 "jdk/internal/util/Preconditions" "SIOOBE_FORMATTER" "Ljava/util/function/BiFunction;" vf) (hvf : vf.isRef = true) (SDE : Sta Z h0 "java/util/ArrayList" "DEFAULTCAPACITY_EMPTY_ELEMENTDATA" "[Ljava/lang/Object;" (.ref de)) (A1 : own_AL Z h0 de a1 xs) (HC : ∀ x ∈ xs, own_Ch Z h0 S x) (hl3 : xs.length ≤ 3)  :
    MetFree l own_y10 (head1 (Jvm.Cond.code own_y10 method_2_code 1 (some (.object "com/example/tributary/tributary/merge/Tree")) :: ws) (⟨10, 15, 60, 154⟩ : Room)) (fun a U => a = #[(.ref a1)] ∧ Z.Warmed39 U.vm ∧ U.heap = h0 ∧ CHv Z own_EL U.vm h0) (fun _ _ _ _ _ => True) (fun _ U o U' => ∃ v L, o = .returned v ∧ Q_nd Z a1 em el mr de xs S h0 n0 v U'.heap L ∧ CHr Z own_EL U.vm U.heap U'.vm U'.heap ∧ ReturnedEndW U o U' L (⟨10, 15, 60, 154⟩ : Room).cells (⟨10, 15, 60, 154⟩ : Room).slots) := by
  refine MetFree.of_bodySF (plainFor_of_name pn_nd) hisR ?_
  intro p e s m args below meth c s₁ Bd hml0 hP hK
  obtain ⟨rfl, hZ, hh, hH⟩ := hP
  have hx := Bd.exec
  have hby := Bd.bytes
  have hml : c.maxLocals = 1 := hml0
  have hown : s.vm.findClass "com/example/tributary/tributary/merge/TreeContainsPinLaw" = some m.cls := findClass_of_methodNamed Bd.named
  have hnm := (name_of_methodNamed Bd.named Bd.method).1
  have X0 : Stand p l e (⟨10, 15, 60, 154⟩ : Room) (s.setVm s.vm) m #[(.ref a1)] below meth c s₁ [] 0 0 := Stand.of_body Bd
  have S0 : s.Since s.vm 0 := (State.WarmedH.refl s).since 0
  have kp0 : 0 ≤ h0.size := Nat.zero_le _
  have e0 : s₁.heap = h0 := by rw [← hh, Bd.state]; rfl
  have N0 := Fr.nil n0
  have pre0 : ∀ t, Steps p.tables e below (s₁.setTop (mkF m 0 #[own_r a1] [])) t → Steps p.tables e below (s₁.setTop (entryFrame m #[(.ref a1)] 1)) t := fun t k => castTop (ef_nd m a1) k
  have K2 : Keep h0 h0 [] := Keep.refl h0 []
  have wT := (own_h hw 32 rfl)
  obtain ⟨T3, h3, X3, e3, E3, A3, D3, -, st3⟩ := newO X0 hx hZ hown (own_h hw 31 rfl) (own_h hw 32 rfl) (own_h hw 33 rfl) e0 (g := (mkF m 0 #[own_r a1] [])) rfl (hb hby dnd_0) (by decide) (by decide)
  obtain ⟨b3, g3⟩ : ∃ z, z = h0.size := ⟨_, rfl⟩
  rw [← g3] at A3 D3 st3
  have g_b3 : n0 ≤ b3 := Nat.le_trans Z0 (Nat.le_of_eq g3.symm)
  have sz_b3 : h0.size ≤ b3 := Nat.le_trans K2.1 (Nat.le_of_eq g3.symm)
  have Z3 : n0 ≤ h3.size := Nat.le_trans Z0 E3.1
  have kp3 : 0 ≤ h3.size := Nat.le_trans kp0 E3.1
  have K5 := K2.ext E3
  have F3_label : Fld Z h3 b3 "com/example/tributary/tributary/merge/Tree" "label" "Ljava/lang/String;" .null := D3 (Or.inr (own_h hw 47 rfl)) (ty := (.object "java/lang/String")) (by decide)
  have F3_key : Fld Z h3 b3 "com/example/tributary/tributary/merge/Tree" "key" "Ljava/lang/String;" .null := D3 (Or.inr (own_h hw 49 rfl)) (ty := (.object "java/lang/String")) (by decide)
  have F3_defines : Fld Z h3 b3 "com/example/tributary/tributary/merge/Tree" "defines" "Lcom/example/tributary/tributary/merge/Symbol;" .null := D3 (Or.inr (own_h hw 51 rfl)) (ty := (.object "com/example/tributary/tributary/merge/Symbol")) (by decide)
  have F3_declares : Fld Z h3 b3 "com/example/tributary/tributary/merge/Tree" "declares" "Ljava/lang/String;" .null := D3 (Or.inr (own_h hw 53 rfl)) (ty := (.object "java/lang/String")) (by decide)
  have F3_name : Fld Z h3 b3 "com/example/tributary/tributary/merge/Tree" "name" "Ljava/lang/String;" .null := D3 (Or.inr (own_h hw 55 rfl)) (ty := (.object "java/lang/String")) (by decide)
  have F3_refers : Fld Z h3 b3 "com/example/tributary/tributary/merge/Tree" "refers" "Ljava/util/List;" .null := D3 (Or.inr (own_h hw 86 rfl)) (ty := (.object "java/util/List")) (by decide)
  have F3_locals : Fld Z h3 b3 "com/example/tributary/tributary/merge/Tree" "locals" "Ljava/util/List;" .null := D3 (Or.inr (own_h hw 88 rfl)) (ty := (.object "java/util/List")) (by decide)
  have F3_element : Fld Z h3 b3 "com/example/tributary/tributary/merge/Tree" "element" "Z" (.int (0 : Int32)) := D3 (Or.inr (own_h hw 90 rfl)) (ty := .boolean) (by decide)
  have F3_catchesChecked : Fld Z h3 b3 "com/example/tributary/tributary/merge/Tree" "catchesChecked" "Z" (.int (0 : Int32)) := D3 (Or.inr (own_h hw 92 rfl)) (ty := .boolean) (by decide)
  have F3_code : Fld Z h3 b3 "com/example/tributary/tributary/merge/Tree" "code" "Lcom/example/tributary/tributary/merge/Code;" .null := D3 (Or.inr (own_h hw 94 rfl)) (ty := (.object "com/example/tributary/tributary/merge/Code")) (by decide)
  have F3_from : Fld Z h3 b3 "com/example/tributary/tributary/merge/Tree" "from" "I" (.int (0 : Int32)) := D3 (Or.inr (own_h hw 96 rfl)) (ty := .int) (by decide)
  have F3_to : Fld Z h3 b3 "com/example/tributary/tributary/merge/Tree" "to" "I" (.int (0 : Int32)) := D3 (Or.inr (own_h hw 98 rfl)) (ty := .int) (by decide)
  have F3_children : Fld Z h3 b3 "com/example/tributary/tributary/merge/Tree" "children" "Ljava/util/List;" .null := D3 (Or.inr (own_h hw 100 rfl)) (ty := (.object "java/util/List")) (by decide)
  have F3_hash : Fld Z h3 b3 "com/example/tributary/tributary/merge/Tree" "hash" "J" (.long (0 : Int64)) := D3 (Or.inr (own_h hw 183 rfl)) (ty := .long) (by decide)
  have F3_size : Fld Z h3 b3 "com/example/tributary/tributary/merge/Tree" "size" "I" (.int (0 : Int32)) := D3 (Or.inr (own_h hw 185 rfl)) (ty := .int) (by decide)
  have F3_height : Fld Z h3 b3 "com/example/tributary/tributary/merge/Tree" "height" "I" (.int (0 : Int32)) := D3 (Or.inr (own_h hw 187 rfl)) (ty := .int) (by decide)
  have F3_pre : Fld Z h3 b3 "com/example/tributary/tributary/merge/Tree" "pre" "I" (.int (0 : Int32)) := D3 (Or.inl (own_h hw 330 rfl)) (ty := .int) (by decide)
  have F3_parent : Fld Z h3 b3 "com/example/tributary/tributary/merge/Tree" "parent" "Lcom/example/tributary/tributary/merge/Tree;" .null := D3 (Or.inl (own_h hw 349 rfl)) (ty := (.object "com/example/tributary/tributary/merge/Tree")) (by decide)
  have Kt : Keep h3 h3 [] := Keep.refl _ _
  have C1 := CHr.ext E3 hH
  have Sf1 : Safe Z own_EL s.vm h0 b3 := Safe.new sz_b3
  have Sf2 := Safe.ext E3 hH Sf1
  have pre6 : own_G p e below T3 s₁ _ _ := fun t k => pre0 t (by
    refine st3 _ ?_
    refine XS.dup X3.here hx rfl (hb hby dnd_3) rfl rfl ?_
    exact k)
  obtain ⟨b7, T7, h7, k7, bv7, kv7, X7, e7, E7, S7, kp7, hZ, hown, Ea7, Fc7, Fd7, Vx7, -, -, Cx7, -, -, st7⟩ := ldcCH X3 hx hZ hown (own_h hw 34 rfl) (own_wS hw) e3 S0 kp3 (own_EW hw) (by simp [own_EL]) C1.1 (vs := [.int (116 : Int32)]) (z := (1 : Int32)) ⟨by first | decide | simp, by first | decide | rfl | simp⟩ (by decide) (by decide) (g := (mkF m 4 #[own_r a1] [(.ref b3), (.ref b3)])) rfl (hb hby dnd_4) (n := 4) (by first | decide | simp) (by decide) (by decide) (by decide)
  have K9 := K5.ext E7
  have K10 := Kt.ext E7
  have Z7 : n0 ≤ h7.size := Nat.le_trans Z3 E7.1
  have C2 := C1.trans Cx7
  have Sf3 := Cx7.safe A3.lt Sf2
  have Ks : Keep h7 h7 [b3] := Keep.refl _ _
  have Ku : Keep h7 h7 [] := Keep.refl _ _
  have pre11 : own_G p e below T7 s₁ _ _ := fun t k => pre6 t (by
    refine st7 _ ?_
    refine XS.aconstNull X7.here hx rfl (hb hby dnd_6) ?_
    refine XS.aconstNull X7.here hx rfl (hb hby dnd_7) ?_
    refine XS.aconstNull X7.here hx rfl (hb hby dnd_8) ?_
    refine XS.aconstNull X7.here hx rfl (hb hby dnd_9) ?_
    exact k)
  obtain ⟨T12, h12, X12, e12, E12, A12, D12, -, st12⟩ := newO X7 hx hZ hown (own_h hw 1 rfl) (own_h hw 2 rfl) (own_h hw 3 rfl) e7 (g := (mkF m 10 #[own_r a1] [.null, .null, .null, .null, (.ref b7), (.ref b3), (.ref b3)])) rfl (hb hby dnd_10) (by decide) (by decide)
  obtain ⟨b12, g12⟩ : ∃ z, z = h7.size := ⟨_, rfl⟩
  rw [← g12] at A12 D12 st12
  have g_b12 : n0 ≤ b12 := Nat.le_trans Z7 (Nat.le_of_eq g12.symm)
  have sz_b12 : h0.size ≤ b12 := Nat.le_trans K9.1 (Nat.le_of_eq g12.symm)
  have szt_b12 : h3.size ≤ b12 := Nat.le_trans K10.1 (Nat.le_of_eq g12.symm)
  have szs_b12 : h7.size ≤ b12 := Nat.le_trans Ks.1 (Nat.le_of_eq g12.symm)
  have szu_b12 : h7.size ≤ b12 := Nat.le_trans Ku.1 (Nat.le_of_eq g12.symm)
  have Z12 : n0 ≤ h12.size := Nat.le_trans Z7 E12.1
  have kp12 : k7 ≤ h12.size := Nat.le_trans kp7 E12.1
  have K14 := K9.ext E12
  have K15 := K10.ext E12
  have K16 := Ks.ext E12
  have K17 := Ku.ext E12
  have F12_modCount : Fld Z h12 b12 "java/util/AbstractList" "modCount" "I" (.int (0 : Int32)) := D12 (Or.inl (own_h hw 23 rfl)) (ty := .int) (by decide)
  have F12_elementData : Fld Z h12 b12 "java/util/ArrayList" "elementData" "[Ljava/lang/Object;" .null := D12 (Or.inl (own_h hw 26 rfl)) (ty := (.array (.object "java/lang/Object"))) (by decide)
  have F12_size : Fld Z h12 b12 "java/util/ArrayList" "size" "I" (.int (0 : Int32)) := D12 (Or.inl (own_h hw 80 rfl)) (ty := .int) (by decide)
  have pre18 : own_G p e below T12 s₁ _ _ := fun t k => pre11 t (by
    refine st12 _ ?_
    refine XS.dup X12.here hx rfl (hb hby dnd_13) rfl rfl ?_
    exact k)
  obtain ⟨_, _, ⟨T19, L19, kk19, nn19⟩, -, X19, ⟨Lc19, hQ19, l19, y19, z19⟩, st19⟩ := X12.specialBack hx (y := own_y3) rfl hown (mvT hZ (own_h hw 4 rfl)) (mvT hZ (own_h hw 5 rfl)) (mvT hZ (own_h hw 6 rfl)) (by decide) (backOf (W := 8) (rm_ali l Z a0 hw [] b12 de h12 n0 Z12 (own_sta_keep SDE K14 (by intro x hx; cases hx)) A12 F12_modCount F12_elementData F12_size g_b12) hZ (own_h hw 6 rfl) (own_h hw 3 rfl) (by decide) (by decide)) (g := (mkF m 14 #[own_r a1] [(.ref b12), (.ref b12), .null, .null, .null, .null, (.ref b7), (.ref b3), (.ref b3)])) rfl (by rw [hml]; rfl) (Steps.refl _) (a := b12) (argsL := []) (rest := [(.ref b12), .null, .null, .null, .null, (.ref b7), (.ref b3), (.ref b3)]) (lenOf pd___V rfl) rfl (by show 2 * 0 + _ ≤ _; exact Nat.le_of_eq rfl) (hb hby dnd_14) (fun _ _ => ⟨rfl, e12, (by decide : 4 + 0 ≤ _), (by decide : 29 + 0 ≤ _)⟩)
  dsimp only [Pt.U, Pt.locs, Pt.cells, Pt.slots] at X19 l19 y19 z19 st19 hQ19
  subst l19 y19 z19
  obtain ⟨rfl, N19q, Kc19, Fm19, Fe19, Fz19⟩ := hQ19
  have N19 := Fr.app N0 N19q
  have f20_0 := A12.keep Kc19
  have K21 := K14.trans Kc19 (fun x hx => by cases List.mem_singleton.mp hx; exact (Or.inr sz_b12))
  have K22 := K15.trans Kc19 (fun x hx => by cases List.mem_singleton.mp hx; exact (Or.inr szt_b12))
  have K23 := K16.trans Kc19 (fun x hx => by cases List.mem_singleton.mp hx; exact (Or.inr szs_b12))
  have K24 := K17.trans Kc19 (fun x hx => by cases List.mem_singleton.mp hx; exact (Or.inr szu_b12))
  have Z19 : n0 ≤ T19.heap.size := Nat.le_trans Z12 Kc19.1
  have kp19 : k7 ≤ T19.heap.size := Nat.le_trans kp12 Kc19.1
  have e19 : T19.heap = T19.heap := rfl
  have AR0 : own_AL Z T19.heap de b12 [] := ⟨f20_0, ⟨_, Fm19⟩, Fz19, Or.inl ⟨rfl, Fe19⟩⟩
  have Kr : Keep T19.heap T19.heap [] := Keep.refl _ _
  have pre25 : own_G p e below T19 s₁ _ _ := fun t k => pre18 t (by
    refine st19.trans ?_
    exact k)
  obtain ⟨T26, h26, X26, e26, E26, A26, D26, -, st26⟩ := newO X19 hx hZ hown (own_h hw 1 rfl) (own_h hw 2 rfl) (own_h hw 3 rfl) e19 (g := (mkF m 17 #[own_r a1] [(.ref b12), .null, .null, .null, .null, (.ref b7), (.ref b3), (.ref b3)])) rfl (hb hby dnd_17) (by decide) (by decide)
  obtain ⟨b26, g26⟩ : ∃ z, z = T19.heap.size := ⟨_, rfl⟩
  rw [← g26] at A26 D26 st26
  have g_b26 : n0 ≤ b26 := Nat.le_trans Z19 (Nat.le_of_eq g26.symm)
  have sz_b26 : h0.size ≤ b26 := Nat.le_trans K21.1 (Nat.le_of_eq g26.symm)
  have szt_b26 : h3.size ≤ b26 := Nat.le_trans K22.1 (Nat.le_of_eq g26.symm)
  have szs_b26 : h7.size ≤ b26 := Nat.le_trans K23.1 (Nat.le_of_eq g26.symm)
  have szu_b26 : h7.size ≤ b26 := Nat.le_trans K24.1 (Nat.le_of_eq g26.symm)
  have szr_b26 : T19.heap.size ≤ b26 := Nat.le_trans Kr.1 (Nat.le_of_eq g26.symm)
  have Z26 : n0 ≤ h26.size := Nat.le_trans Z19 E26.1
  have kp26 : k7 ≤ h26.size := Nat.le_trans kp19 E26.1
  have K28 := K21.ext E26
  have K29 := K22.ext E26
  have K30 := K23.ext E26
  have K31 := K24.ext E26
  have K32 := Kr.ext E26
  have F26_modCount : Fld Z h26 b26 "java/util/AbstractList" "modCount" "I" (.int (0 : Int32)) := D26 (Or.inl (own_h hw 23 rfl)) (ty := .int) (by decide)
  have F26_elementData : Fld Z h26 b26 "java/util/ArrayList" "elementData" "[Ljava/lang/Object;" .null := D26 (Or.inl (own_h hw 26 rfl)) (ty := (.array (.object "java/lang/Object"))) (by decide)
  have F26_size : Fld Z h26 b26 "java/util/ArrayList" "size" "I" (.int (0 : Int32)) := D26 (Or.inl (own_h hw 80 rfl)) (ty := .int) (by decide)
  have pre33 : own_G p e below T26 s₁ _ _ := fun t k => pre25 t (by
    refine st26 _ ?_
    refine XS.dup X26.here hx rfl (hb hby dnd_20) rfl rfl ?_
    exact k)
  obtain ⟨_, _, ⟨T34, L34, kk34, nn34⟩, -, X34, ⟨Lc34, hQ34, l34, y34, z34⟩, st34⟩ := X26.specialBack hx (y := own_y3) rfl hown (mvT hZ (own_h hw 4 rfl)) (mvT hZ (own_h hw 5 rfl)) (mvT hZ (own_h hw 6 rfl)) (by decide) (backOf (W := 9) (rm_ali l Z a0 hw [] b26 de h26 n0 Z26 (own_sta_keep SDE K28 (by intro x hx; cases hx)) A26 F26_modCount F26_elementData F26_size g_b26) hZ (own_h hw 6 rfl) (own_h hw 3 rfl) (by decide) (by decide)) (g := (mkF m 21 #[own_r a1] [(.ref b26), (.ref b26), (.ref b12), .null, .null, .null, .null, (.ref b7), (.ref b3), (.ref b3)])) rfl (by rw [hml]; rfl) (Steps.refl _) (a := b26) (argsL := []) (rest := [(.ref b26), (.ref b12), .null, .null, .null, .null, (.ref b7), (.ref b3), (.ref b3)]) (lenOf pd___V rfl) rfl (by show 2 * 0 + _ ≤ _; exact Nat.le_of_eq rfl) (hb hby dnd_21) (fun _ _ => ⟨rfl, e26, (by decide : 5 + 0 ≤ _), (by decide : 32 + 0 ≤ _)⟩)
  dsimp only [Pt.U, Pt.locs, Pt.cells, Pt.slots] at X34 l34 y34 z34 st34 hQ34
  subst l34 y34 z34
  obtain ⟨rfl, N34q, Kc34, Fm34, Fe34, Fz34⟩ := hQ34
  have N34 := Fr.app N19 N34q
  have f35_0 := A26.keep Kc34
  have K36 := K28.trans Kc34 (fun x hx => by cases List.mem_singleton.mp hx; exact (Or.inr sz_b26))
  have K37 := K29.trans Kc34 (fun x hx => by cases List.mem_singleton.mp hx; exact (Or.inr szt_b26))
  have K38 := K30.trans Kc34 (fun x hx => by cases List.mem_singleton.mp hx; exact (Or.inr szs_b26))
  have K39 := K31.trans Kc34 (fun x hx => by cases List.mem_singleton.mp hx; exact (Or.inr szu_b26))
  have K40 := K32.trans Kc34 (fun x hx => by cases List.mem_singleton.mp hx; exact (Or.inr szr_b26))
  have Z34 : n0 ≤ T34.heap.size := Nat.le_trans Z26 Kc34.1
  have kp34 : k7 ≤ T34.heap.size := Nat.le_trans kp26 Kc34.1
  have e34 : T34.heap = T34.heap := rfl
  have AR1 : own_AL Z T34.heap de b26 [] := ⟨f35_0, ⟨_, Fm34⟩, Fz34, Or.inl ⟨rfl, Fe34⟩⟩
  have pre41 : own_G p e below T34 s₁ _ _ := fun t k => pre33 t (by
    refine st34.trans ?_
    refine XS.iconst X34.here hx rfl (hb hby dnd_24) ?_
    refine XS.iconst X34.here hx rfl (hb hby dnd_25) ?_
    refine XS.aconstNull X34.here hx rfl (hb hby dnd_26) ?_
    refine XS.iconst X34.here hx rfl (hb hby dnd_27) ?_
    refine XS.iconst X34.here hx rfl (hb hby dnd_28) ?_
    refine XS.aloadN X34.here hx rfl (hb hby dnd_29) rfl rfl ?_
    refine XT.lconst X34.here hx rfl (hb hby dnd_30) ?_
    exact k)
  have Gt_label := F3_label.keep K37 (by simp)
  have Gt_key := F3_key.keep K37 (by simp)
  have Gt_defines := F3_defines.keep K37 (by simp)
  have Gt_declares := F3_declares.keep K37 (by simp)
  have Gt_name := F3_name.keep K37 (by simp)
  have Gt_refers := F3_refers.keep K37 (by simp)
  have Gt_locals := F3_locals.keep K37 (by simp)
  have Gt_element := F3_element.keep K37 (by simp)
  have Gt_catchesChecked := F3_catchesChecked.keep K37 (by simp)
  have Gt_code := F3_code.keep K37 (by simp)
  have Gt_from := F3_from.keep K37 (by simp)
  have Gt_to := F3_to.keep K37 (by simp)
  have Gt_children := F3_children.keep K37 (by simp)
  have Gt_hash := F3_hash.keep K37 (by simp)
  have Gt_size := F3_size.keep K37 (by simp)
  have Gt_height := F3_height.keep K37 (by simp)
  have Gt_pre := F3_pre.keep K37 (by simp)
  have Gt_parent := F3_parent.keep K37 (by simp)
  have hct : ∀ x ∈ xs, x ≠ b3 := fun x hx => Nat.ne_of_lt (Nat.lt_of_lt_of_le (HC x hx).1.lt sz_b3)
  obtain ⟨_, _, ⟨T42, L42, kk42, nn42⟩, -, X42, ⟨Lc42, hQ42, l42, y42, z42⟩, st42⟩ := X34.specialBack hx (y := own_y21) rfl hown (mvT hZ (own_h hw 42 rfl)) (mvT hZ (own_h hw 43 rfl)) (mvT hZ (own_h hw 44 rfl)) (by decide) (backOf (W := 1) (rm_tri l Z a0 hw [] b3 b7 bv7 b12 b26 a1 em el mr de kv7 xs S T34.heap n0 Z34 (own_sta_keep SEM K36 (by intro x hx; cases hx)) (EM.keep K36) (own_sta_keep SEL K36 (by intro x hx; cases hx)) (own_Kids_re wT KE K36) M1 (own_sta_keep SC K36 (by intro x hx; cases hx)) hcz (own_sta_keep SF K36 (by intro x hx; cases hx)) hvf (A3.keep K37) Gt_label Gt_key Gt_defines Gt_declares Gt_name Gt_refers Gt_locals Gt_element Gt_catchesChecked Gt_code Gt_from Gt_to Gt_children Gt_hash Gt_size Gt_height Gt_pre Gt_parent g_b3 (Ea7.keep K39) (Fd7.keep K39 (by simp)) (Fc7.keep K39 (by simp)) (Vx7.keep K39 (by simp)) (own_AL_keep AR0 K40) AR1 (own_AL_keep A1 K36) (fun x hx => own_Ch_keep (HC x hx) K36) hct hl3) hZ (own_h hw 44 rfl) (own_h hw 33 rfl) (by decide) (by decide)) (g := (mkF m 31 #[own_r a1] [(.long (0 : Int64)), (.ref a1), (.int (0 : Int32)), (.int (0 : Int32)), .null, (.int (0 : Int32)), (.int (0 : Int32)), (.ref b26), (.ref b12), .null, .null, .null, .null, (.ref b7), (.ref b3), (.ref b3)])) rfl (by rw [hml]; rfl) (Steps.refl _) (a := b3) (argsL := [(.ref b7), .null, .null, .null, .null, (.ref b12), (.ref b26), (.int (0 : Int32)), (.int (0 : Int32)), .null, (.int (0 : Int32)), (.int (0 : Int32)), (.ref a1), (.long (0 : Int64))]) (rest := [(.ref b3)]) (lenOf pd__Ljava_lang_String_Ljava_lang_String_Lcom_example_tributary_tributary_merge_Symbol_Ljava_lang_String_Ljava_lang_String_Ljava_util_List_Ljava_util_List_ZZLcom_example_tributary_tributary_merge_Code_IILjava_util_List_J_V rfl) rfl (by show 2 * 0 + _ ≤ _; exact Nat.le_of_eq rfl) (hb hby dnd_31) (fun _ _ => ⟨rfl, e34, (by decide : 5 + 10 ≤ _), (by decide : 32 + 28 ≤ _)⟩)
  dsimp only [Pt.U, Pt.locs, Pt.cells, Pt.slots] at X42 l42 y42 z42 st42 hQ42
  subst l42 y42 z42
  obtain ⟨rfl, N42q, Kc42, Nd42⟩ := hQ42
  have N42 := Fr.app N34 N42q
  have K44 := K36.trans Kc42 (fun x hx => by cases List.mem_singleton.mp hx; exact (Or.inr sz_b3))
  have K45 := K38.trans Kc42 (fun x hx => by cases List.mem_singleton.mp hx; exact (Or.inl (List.mem_of_getElem? (i := 0) rfl)))
  have Z42 : n0 ≤ T42.heap.size := Nat.le_trans Z34 Kc42.1
  have kp42 : k7 ≤ T42.heap.size := Nat.le_trans kp34 Kc42.1
  have e42 : T42.heap = T42.heap := rfl
  have pre46 : own_G p e below T42 s₁ _ _ := fun t k => pre41 t (by
    refine st42.trans ?_
    exact k)
  have C3 := CHr.keep K45 (fun x hx => by cases List.mem_singleton.mp hx; exact Sf3) C2.1
  have C4 := CHv.at X42 hZ (own_EW hw) C3.1
  obtain ⟨fs, hr, hrun, hended, hW⟩ := X42.leaveW S7 (Nat.le_trans kp42 (Nat.le_of_eq (congrArg Array.size e42.symm))) (v := some (.ref b3)) (fun h => by rw [Bd.returns] at h; cases h)
  refine ⟨_, _, pre46 _ ?_, hrun, hended, _, _, rfl, ?_, ?_, hW.1, hW.2.1, hW.2.2.1, hW.2.2.2.mono (by decide) (by decide)⟩
  · show Steps p.tables e below (T42.setTop (mkF m 34 #[own_r a1] [(.ref b3)])) _
    jvm_step X42.here [X42.here.top, hx, (hb hby dnd_34), X42.method', Bd.returns, Value.isRef, FieldType.isReference]
    first | (intro acts; rw [hr _ acts rfl rfl rfl]) | rw [hr _ _ rfl rfl rfl]
    exact Steps.refl _
  · show Q_nd Z a1 em el mr de xs S h0 n0 _ T42.heap _
    skip
    exact ⟨b3, rfl, N42, K44, g_b3, sz_b3, Nd42⟩
  · show CHr Z own_EL s.vm s.heap T42.vm T42.heap
    rw [hh]; exact (C2.trans (C3.trans C4))
def own_ct (pa sa pb : Int32) : Int32 := if pb < pa then 0 else if pb < pa + sa then 1 else 0
theorem dct_0 : decode own_k17 0 = .ok (.aload_n 1, 1) := by decide +kernel
theorem dct_1 : decode own_k17 1 = .ok (.getfield 134, 3) := by decide +kernel
theorem dct_4 : decode own_k17 4 = .ok (.aload_n 0, 1) := by decide +kernel
theorem dct_5 : decode own_k17 5 = .ok (.getfield 134, 3) := by decide +kernel
theorem dct_8 : decode own_k17 8 = .ok (.if_icmp .lt 23, 3) := by decide +kernel
theorem dct_11 : decode own_k17 11 = .ok (.aload_n 1, 1) := by decide +kernel
theorem dct_12 : decode own_k17 12 = .ok (.getfield 134, 3) := by decide +kernel
theorem dct_15 : decode own_k17 15 = .ok (.aload_n 0, 1) := by decide +kernel
theorem dct_16 : decode own_k17 16 = .ok (.getfield 134, 3) := by decide +kernel
theorem dct_19 : decode own_k17 19 = .ok (.aload_n 0, 1) := by decide +kernel
theorem dct_20 : decode own_k17 20 = .ok (.getfield 87, 3) := by decide +kernel
theorem dct_23 : decode own_k17 23 = .ok (.iadd, 1) := by decide +kernel
theorem dct_24 : decode own_k17 24 = .ok (.if_icmp .ge 7, 3) := by decide +kernel
theorem dct_27 : decode own_k17 27 = .ok (.iconst 1, 1) := by decide +kernel
theorem dct_28 : decode own_k17 28 = .ok (.goto 4, 3) := by decide +kernel
theorem dct_31 : decode own_k17 31 = .ok (.iconst 0, 1) := by decide +kernel
theorem dct_32 : decode own_k17 32 = .ok (.ireturn, 1) := by decide +kernel
theorem ef_ct (m : MethodId) (a1 : Addr) (a2 : Addr) : entryFrame m #[(.ref a1), (.ref a2)] 2 = (mkF m 0 #[own_r a1, own_r a2] []) := by first | (simp [entryFrame, mkF, argsToLocals, Value.category]; done) | rfl
def Q_ct (Z : State) (a1 a2 : Addr) (pa sa pb : Int32) (h0 : Heap) (n0 : Nat) (v : Option Value) (h : Heap) (L : List Loc) : Prop := v = some (.int (own_ct pa sa pb)) ∧ Fr n0 L ∧ h = h0
theorem rm_ct (l : Launch) (Z : State) (a0 : Array Value) (hw : own_W a0 Z) (ws : List Jvm.Cond) (a1 a2 : Addr) (pa sa pb : Int32) (h0 : Heap) (n0 : Nat) (Z0 : n0 ≤ h0.size) (F1 : Fld Z h0 a1 "com/example/tributary/tributary/merge/Tree" "pre" "I" (.int pa)) (F2 : Fld Z h0 a1 "com/example/tributary/tributary/merge/Tree" "size" "I" (.int sa)) (F3 : Fld Z h0 a2 "com/example/tributary/tributary/merge/Tree" "pre" "I" (.int pb)) :
    own_M l Z h0 ws own_y16 prog_45_method_26_code 2 (some .boolean) (⟨0, 0, 0, 0⟩ : Room) #[(.ref a1), (.ref a2)] (Q_ct Z a1 a2 pa sa pb h0 n0) := by
  refine MetFree.of_bodySF (plainFor_of_name pn_mxj) hisR ?_
  intro p e s m args below meth c s₁ Bd hml0 hP hK
  obtain ⟨rfl, hZ, hh⟩ := hP
  have hx := Bd.exec
  have hby := Bd.bytes
  have hml : c.maxLocals = 2 := hml0
  have hown : s.vm.findClass "com/example/tributary/tributary/merge/Tree" = some m.cls := findClass_of_methodNamed Bd.named
  have hnm := (name_of_methodNamed Bd.named Bd.method).1
  have X0 : Stand p l e (⟨0, 0, 0, 0⟩ : Room) s m #[(.ref a1), (.ref a2)] below meth c s₁ [] 0 0 := Stand.of_body Bd
  have e0 : s₁.heap = h0 := by rw [← hh, Bd.state]; rfl
  have N0 := Fr.nil n0
  have pre0 : ∀ t, Steps p.tables e below (s₁.setTop (mkF m 0 #[own_r a1, own_r a2] [])) t → Steps p.tables e below (s₁.setTop (entryFrame m #[(.ref a1), (.ref a2)] 2)) t := fun t k => castTop (ef_ct m a1 a2) k
  have pre2 : own_G p e below s₁ s₁ _ _ := fun t k => pre0 t (by
    refine XS.aloadN X0.here hx rfl (hb hby dct_0) rfl rfl ?_
    exact k)
  obtain ⟨T3, X3, e3, st3⟩ := getF X0 hx hZ hown (host := "") (Or.inl (own_h hw 329 rfl)) Via.refl e0 F3 (g := (mkF m 1 #[own_r a1, own_r a2] [(.ref a2)])) rfl rfl (hb hby dct_1)
  have pre4 : own_G p e below T3 s₁ _ _ := fun t k => pre2 t (by
    refine st3 _ ?_
    refine XS.aloadN X3.here hx rfl (hb hby dct_4) rfl rfl ?_
    exact k)
  obtain ⟨T5, X5, e5, st5⟩ := getF X3 hx hZ hown (host := "") (Or.inl (own_h hw 329 rfl)) Via.refl e3 F1 (g := (mkF m 5 #[own_r a1, own_r a2] [(.ref a1), (.int pb)])) rfl rfl (hb hby dct_5)
  have pre6 : own_G p e below T5 s₁ _ _ := fun t k => pre4 t (by
    refine st5 _ ?_
    exact k)
  by_cases h1 : pb < pa
  · skip
    have hf : own_ct pa sa pb = 0 := if_pos h1
    have pre7 : own_G p e below T5 s₁ _ _ := fun t k => pre6 t (by
      refine XS.icmpYes X5.here hx rfl (pc0 := 8) (pc' := 31) rfl (hb hby dct_8) rfl (XT.ii_lt_t h1) (by decide) (by decide) ?_
      refine XS.iconst X5.here hx rfl (hb hby dct_31) ?_
      exact k)
    obtain ⟨fs, hr, hrun, hended, hW, hsame⟩ := X5.leave (v := some (.int (0 : Int32))) (fun h => by rw [Bd.returns] at h; cases h)
    refine ⟨_, _, pre7 _ ?_, hrun, hended, _, _, rfl, ?_, ⟨_, rfl⟩, hW, hsame.mono (by decide) (by decide)⟩
    · exact retN X5 hx (t := .boolean) Bd.returns (by simp) (hb hby dct_32) hr
    · show Q_ct Z a1 a2 pa sa pb h0 n0 _ T5.heap _
      unfold Q_ct; rw [hf]
      rw [e5]
      exact ⟨rfl, N0, rfl⟩
  · skip
    have pre7 : own_G p e below T5 s₁ _ _ := fun t k => pre6 t (by
      refine XS.icmpNo X5.here hx rfl (hb hby dct_8) rfl (XT.ii_lt_f h1) ?_
      refine XS.aloadN X5.here hx rfl (hb hby dct_11) rfl rfl ?_
      exact k)
    obtain ⟨T8, X8, e8, st8⟩ := getF X5 hx hZ hown (host := "") (Or.inl (own_h hw 329 rfl)) Via.refl e5 F3 (g := (mkF m 12 #[own_r a1, own_r a2] [(.ref a2)])) rfl rfl (hb hby dct_12)
    have pre9 : own_G p e below T8 s₁ _ _ := fun t k => pre7 t (by
      refine st8 _ ?_
      refine XS.aloadN X8.here hx rfl (hb hby dct_15) rfl rfl ?_
      exact k)
    obtain ⟨T10, X10, e10, st10⟩ := getF X8 hx hZ hown (host := "") (Or.inl (own_h hw 329 rfl)) Via.refl e8 F1 (g := (mkF m 16 #[own_r a1, own_r a2] [(.ref a1), (.int pb)])) rfl rfl (hb hby dct_16)
    have pre11 : own_G p e below T10 s₁ _ _ := fun t k => pre9 t (by
      refine st10 _ ?_
      refine XS.aloadN X10.here hx rfl (hb hby dct_19) rfl rfl ?_
      exact k)
    obtain ⟨T12, X12, e12, st12⟩ := getF X10 hx hZ hown (host := "") (Or.inl (own_h hw 184 rfl)) Via.refl e10 F2 (g := (mkF m 20 #[own_r a1, own_r a2] [(.ref a1), (.int pa), (.int pb)])) rfl rfl (hb hby dct_20)
    have pre13 : own_G p e below T12 s₁ _ _ := fun t k => pre11 t (by
      refine st12 _ ?_
      refine XS.iadd X12.here hx rfl (hb hby dct_23) rfl ?_
      exact k)
    by_cases h2 : pb < pa + sa
    · skip
      have hf : own_ct pa sa pb = 1 := by rw [own_ct, if_neg h1, if_pos h2]
      have pre14 : own_G p e below T12 s₁ _ _ := fun t k => pre13 t (by
        refine XS.icmpNo X12.here hx rfl (hb hby dct_24) rfl (XT.ii_ge_f h2) ?_
        refine XS.iconst X12.here hx rfl (hb hby dct_27) ?_
        refine XS.goto X12.here hx rfl (pc0 := 28) (pc' := 32) rfl (hb hby dct_28) (by decide) (by decide) ?_
        exact k)
      obtain ⟨fs, hr, hrun, hended, hW, hsame⟩ := X12.leave (v := some (.int (1 : Int32))) (fun h => by rw [Bd.returns] at h; cases h)
      refine ⟨_, _, pre14 _ ?_, hrun, hended, _, _, rfl, ?_, ⟨_, rfl⟩, hW, hsame.mono (by decide) (by decide)⟩
      · exact retN X12 hx (t := .boolean) Bd.returns (by simp) (hb hby dct_32) hr
      · show Q_ct Z a1 a2 pa sa pb h0 n0 _ T12.heap _
        unfold Q_ct; rw [hf]
        rw [e12]
        exact ⟨rfl, N0, rfl⟩
    · skip
      have hf : own_ct pa sa pb = 0 := by rw [own_ct, if_neg h1, if_neg h2]
      have pre14 : own_G p e below T12 s₁ _ _ := fun t k => pre13 t (by
        refine XS.icmpYes X12.here hx rfl (pc0 := 24) (pc' := 31) rfl (hb hby dct_24) rfl (XT.ii_ge_t h2) (by decide) (by decide) ?_
        refine XS.iconst X12.here hx rfl (hb hby dct_31) ?_
        exact k)
      obtain ⟨fs, hr, hrun, hended, hW, hsame⟩ := X12.leave (v := some (.int (0 : Int32))) (fun h => by rw [Bd.returns] at h; cases h)
      refine ⟨_, _, pre14 _ ?_, hrun, hended, _, _, rfl, ?_, ⟨_, rfl⟩, hW, hsame.mono (by decide) (by decide)⟩
      · exact retN X12 hx (t := .boolean) Bd.returns (by simp) (hb hby dct_32) hr
      · show Q_ct Z a1 a2 pa sa pb h0 n0 _ T12.heap _
        unfold Q_ct; rw [hf]
        rw [e12]
        exact ⟨rfl, N0, rfl⟩
def own_par (pb pc y : Int32) : Int32 := if y = 0 then -1 else if y = 1 then 0 else if y = 2 then pb else pc
def own_anc (x y pb pc : Int32) : Int32 := if y = x then 1 else if own_par pb pc y < 0 then 0 else if own_par pb pc y = x then 1 else if own_par pb pc (own_par pb pc y) < 0 then 0 else if own_par pb pc (own_par pb pc y) = x then 1 else if own_par pb pc (own_par pb pc (own_par pb pc y)) < 0 then 0 else if own_par pb pc (own_par pb pc (own_par pb pc y)) = x then 1 else 0
def own_q4 (y : Int32) : Prop := y = 0 ∨ y = 1 ∨ y = 2 ∨ y = 3
theorem own_pat {pb pc y : Int32} (hy : own_q4 y) : (¬ y < 0 ∧ y < (4 : Int32)) ∧ ([.int (-1 : Int32), .int (0 : Int32), .int pb, .int pc] : List Value).getD y.toNatClampNeg (.int 0) = .int (own_par pb pc y) := by
  rcases hy with rfl | rfl | rfl | rfl <;> exact ⟨by decide, rfl⟩
theorem own_pin {pb pc y : Int32} (hb : pb = 0 ∨ pb = 1) (hc : pc = 0 ∨ pc = 1 ∨ pc = 2) (hn : ¬ own_par pb pc y < 0) : own_q4 (own_par pb pc y) := by
  unfold own_par at *
  by_cases h0 : y = 0
  · rw [if_pos h0] at hn; exact absurd (by decide) hn
  · rw [if_neg h0] at hn ⊢
    by_cases h1 : y = 1
    · rw [if_pos h1]; exact Or.inl rfl
    · rw [if_neg h1]
      by_cases h2 : y = 2
      · rw [if_pos h2]; rcases hb with rfl | rfl
        · exact Or.inl rfl
        · exact Or.inr (Or.inl rfl)
      · rw [if_neg h2]; rcases hc with rfl | rfl | rfl
        · exact Or.inl rfl
        · exact Or.inr (Or.inl rfl)
        · exact Or.inr (Or.inr (Or.inl rfl))
theorem danc_0 : decode own_k3 0 = .ok (.iload_n 1, 1) := by decide +kernel
theorem danc_1 : decode own_k3 1 = .ok (.iload_n 0, 1) := by decide +kernel
theorem danc_2 : decode own_k3 2 = .ok (.if_icmp .ne 5, 3) := by decide +kernel
theorem danc_5 : decode own_k3 5 = .ok (.iconst 1, 1) := by decide +kernel
theorem danc_6 : decode own_k3 6 = .ok (.ireturn, 1) := by decide +kernel
theorem danc_7 : decode own_k3 7 = .ok (.aload_n 2, 1) := by decide +kernel
theorem danc_8 : decode own_k3 8 = .ok (.iload_n 1, 1) := by decide +kernel
theorem danc_9 : decode own_k3 9 = .ok (.iaload, 1) := by decide +kernel
theorem danc_10 : decode own_k3 10 = .ok (.istore_n 3, 1) := by decide +kernel
theorem danc_11 : decode own_k3 11 = .ok (.iload_n 3, 1) := by decide +kernel
theorem danc_12 : decode own_k3 12 = .ok (.ifCond .ge 5, 3) := by decide +kernel
theorem danc_15 : decode own_k3 15 = .ok (.iconst 0, 1) := by decide +kernel
theorem danc_16 : decode own_k3 16 = .ok (.ireturn, 1) := by decide +kernel
theorem danc_17 : decode own_k3 17 = .ok (.iload_n 3, 1) := by decide +kernel
theorem danc_18 : decode own_k3 18 = .ok (.iload_n 0, 1) := by decide +kernel
theorem danc_19 : decode own_k3 19 = .ok (.if_icmp .ne 5, 3) := by decide +kernel
theorem danc_22 : decode own_k3 22 = .ok (.iconst 1, 1) := by decide +kernel
theorem danc_23 : decode own_k3 23 = .ok (.ireturn, 1) := by decide +kernel
theorem danc_24 : decode own_k3 24 = .ok (.aload_n 2, 1) := by decide +kernel
theorem danc_25 : decode own_k3 25 = .ok (.iload_n 3, 1) := by decide +kernel
theorem danc_26 : decode own_k3 26 = .ok (.iaload, 1) := by decide +kernel
theorem danc_27 : decode own_k3 27 = .ok (.istore 4, 2) := by decide +kernel
theorem danc_29 : decode own_k3 29 = .ok (.iload 4, 2) := by decide +kernel
theorem danc_31 : decode own_k3 31 = .ok (.ifCond .ge 5, 3) := by decide +kernel
theorem danc_34 : decode own_k3 34 = .ok (.iconst 0, 1) := by decide +kernel
theorem danc_35 : decode own_k3 35 = .ok (.ireturn, 1) := by decide +kernel
theorem danc_36 : decode own_k3 36 = .ok (.iload 4, 2) := by decide +kernel
theorem danc_38 : decode own_k3 38 = .ok (.iload_n 0, 1) := by decide +kernel
theorem danc_39 : decode own_k3 39 = .ok (.if_icmp .ne 5, 3) := by decide +kernel
theorem danc_42 : decode own_k3 42 = .ok (.iconst 1, 1) := by decide +kernel
theorem danc_43 : decode own_k3 43 = .ok (.ireturn, 1) := by decide +kernel
theorem danc_44 : decode own_k3 44 = .ok (.aload_n 2, 1) := by decide +kernel
theorem danc_45 : decode own_k3 45 = .ok (.iload 4, 2) := by decide +kernel
theorem danc_47 : decode own_k3 47 = .ok (.iaload, 1) := by decide +kernel
theorem danc_48 : decode own_k3 48 = .ok (.istore 5, 2) := by decide +kernel
theorem danc_50 : decode own_k3 50 = .ok (.iload 5, 2) := by decide +kernel
theorem danc_52 : decode own_k3 52 = .ok (.ifCond .ge 5, 3) := by decide +kernel
theorem danc_55 : decode own_k3 55 = .ok (.iconst 0, 1) := by decide +kernel
theorem danc_56 : decode own_k3 56 = .ok (.ireturn, 1) := by decide +kernel
theorem danc_57 : decode own_k3 57 = .ok (.iload 5, 2) := by decide +kernel
theorem danc_59 : decode own_k3 59 = .ok (.iload_n 0, 1) := by decide +kernel
theorem danc_60 : decode own_k3 60 = .ok (.if_icmp .ne 7, 3) := by decide +kernel
theorem danc_63 : decode own_k3 63 = .ok (.iconst 1, 1) := by decide +kernel
theorem danc_64 : decode own_k3 64 = .ok (.goto 4, 3) := by decide +kernel
theorem danc_67 : decode own_k3 67 = .ok (.iconst 0, 1) := by decide +kernel
theorem danc_68 : decode own_k3 68 = .ok (.ireturn, 1) := by decide +kernel
theorem ef_anc (m : MethodId) (x : Int32) (y : Int32) (b1 : Addr) : entryFrame m #[(.int x), (.int y), (.ref b1)] 6 = (mkF m 0 #[own_i x, own_i y, own_r b1, .unset, .unset, .unset] []) := by first | (simp [entryFrame, mkF, argsToLocals, Value.category]; done) | rfl
def Q_anc (Z : State) (x y pb pc : Int32) (b1 : Addr) (k1 : ClassId) (h0 : Heap) (n0 : Nat) (v : Option Value) (h : Heap) (L : List Loc) : Prop := v = some (.int (own_anc x y pb pc)) ∧ Fr n0 L ∧ h = h0
theorem rm_anc (l : Launch) (Z : State) (a0 : Array Value) (hw : own_W a0 Z) (ws : List Jvm.Cond) (x y pb pc : Int32) (b1 : Addr) (k1 : ClassId) (h0 : Heap) (n0 : Nat) (Z0 : n0 ≤ h0.size) (V1 : Arv Z h0 b1 k1 .int (4 : Int32) [.int (-1 : Int32), .int (0 : Int32), .int pb, .int pc] (.int (0 : Int32))) (hy : own_q4 y) (hpb : pb = 0 ∨ pb = 1) (hpc : pc = 0 ∨ pc = 1 ∨ pc = 2) :
    own_M l Z h0 ws own_y33 method_3_code 6 (some .boolean) (⟨0, 0, 0, 0⟩ : Room) #[(.int x), (.int y), (.ref b1)] (Q_anc Z x y pb pc b1 k1 h0 n0) := by
  refine MetFree.of_bodySF (plainFor_of_name pn_nd) hisR ?_
  intro p e s m args below meth c s₁ Bd hml0 hP hK
  obtain ⟨rfl, hZ, hh⟩ := hP
  have hx := Bd.exec
  have hby := Bd.bytes
  have hml : c.maxLocals = 6 := hml0
  have hown : s.vm.findClass "com/example/tributary/tributary/merge/TreeContainsPinLaw" = some m.cls := findClass_of_methodNamed Bd.named
  have hnm := (name_of_methodNamed Bd.named Bd.method).1
  have X0 : Stand p l e (⟨0, 0, 0, 0⟩ : Room) s m #[(.int x), (.int y), (.ref b1)] below meth c s₁ [] 0 0 := Stand.of_body Bd
  have e0 : s₁.heap = h0 := by rw [← hh, Bd.state]; rfl
  have N0 := Fr.nil n0
  have pre0 : ∀ t, Steps p.tables e below (s₁.setTop (mkF m 0 #[own_i x, own_i y, own_r b1, .unset, .unset, .unset] [])) t → Steps p.tables e below (s₁.setTop (entryFrame m #[(.int x), (.int y), (.ref b1)] 6)) t := fun t k => castTop (ef_anc m x y b1) k
  have pre2 : own_G p e below s₁ s₁ _ _ := fun t k => pre0 t (by
    refine XS.iloadN X0.here hx rfl (hb hby danc_0) rfl ?_
    refine XS.iloadN X0.here hx rfl (hb hby danc_1) rfl ?_
    exact k)
  by_cases hxy : y = x
  · skip
    have hf : own_anc x y pb pc = 1 := by rw [own_anc, if_pos hxy]
    have pre3 : own_G p e below s₁ s₁ _ _ := fun t k => pre2 t (by
      refine XS.icmpNo X0.here hx rfl (hb hby danc_2) rfl (XT.ii_ne_f hxy) ?_
      refine XS.iconst X0.here hx rfl (hb hby danc_5) ?_
      exact k)
    obtain ⟨fs, hr, hrun, hended, hW, hsame⟩ := X0.leave (v := some (.int (1 : Int32))) (fun h => by rw [Bd.returns] at h; cases h)
    refine ⟨_, _, pre3 _ ?_, hrun, hended, _, _, rfl, ?_, ⟨_, rfl⟩, hW, hsame.mono (by decide) (by decide)⟩
    · exact retN X0 hx (t := .boolean) Bd.returns (by simp) (hb hby danc_6) hr
    · show Q_anc Z x y pb pc b1 k1 h0 n0 _ s₁.heap _
      unfold Q_anc; rw [hf]
      rw [e0]
      exact ⟨rfl, N0, rfl⟩
  · skip
    have pq0 := own_pat (pb := pb) (pc := pc) hy
    obtain ⟨cl3, Ar3, kc3, S3, M3, H3, G3⟩ := id V1
    have hin3 := inb_of S3 (j := y) pq0.1
    have hat3 : cl3.slots[(y).toNatClampNeg]? = some (.int (own_par pb pc y)) := H3.at hin3 pq0.2
    have pre4 : own_G p e below s₁ s₁ _ _ := fun t k => pre2 t (by
      refine XS.icmpYes X0.here hx rfl (pc0 := 2) (pc' := 7) rfl (hb hby danc_2) rfl (XT.ii_ne_t hxy) (by decide) (by decide) ?_
      refine XS.aloadN X0.here hx rfl (hb hby danc_7) rfl rfl ?_
      refine XS.iloadN X0.here hx rfl (hb hby danc_8) rfl ?_
      refine X0.iaload hx (j := y) (v := (.int (own_par pb pc y))) (by rw [e0]; exact Ar3.1) (State.isArrayOf_alike hZ.alike Ar3.2.1) Ar3.2.2 hin3 hat3 (g := (mkF m 9 #[own_i x, own_i y, own_r b1, .unset, .unset, .unset] [(.int y), (.ref b1)])) rfl rfl (hb hby danc_9) _ ?_
      refine XS.istoreN X0.here hx rfl (hb hby danc_10) rfl (l' := #[own_i x, own_i y, own_r b1, .val (.int (own_par pb pc y)), .unset, .unset]) rfl ?_
      refine XS.iloadN X0.here hx rfl (hb hby danc_11) rfl ?_
      exact k)
    by_cases u0 : (own_par pb pc y) < 0
    · skip
      have hf : own_anc x y pb pc = 0 := by rw [own_anc, if_neg hxy, if_pos u0]
      have pre5 : own_G p e below s₁ s₁ _ _ := fun t k => pre4 t (by
        refine XS.ifNo X0.here hx rfl (hb hby danc_12) rfl (XT.i0_ge_f u0) ?_
        refine XS.iconst X0.here hx rfl (hb hby danc_15) ?_
        exact k)
      obtain ⟨fs, hr, hrun, hended, hW, hsame⟩ := X0.leave (v := some (.int (0 : Int32))) (fun h => by rw [Bd.returns] at h; cases h)
      refine ⟨_, _, pre5 _ ?_, hrun, hended, _, _, rfl, ?_, ⟨_, rfl⟩, hW, hsame.mono (by decide) (by decide)⟩
      · exact retN X0 hx (t := .boolean) Bd.returns (by simp) (hb hby danc_16) hr
      · show Q_anc Z x y pb pc b1 k1 h0 n0 _ s₁.heap _
        unfold Q_anc; rw [hf]
        rw [e0]
        exact ⟨rfl, N0, rfl⟩
    · skip
      have pre5 : own_G p e below s₁ s₁ _ _ := fun t k => pre4 t (by
        refine XS.ifYes X0.here hx rfl (pc0 := 12) (pc' := 17) rfl (hb hby danc_12) rfl (XT.i0_ge_t u0) (by decide) (by decide) ?_
        refine XS.iloadN X0.here hx rfl (hb hby danc_17) rfl ?_
        refine XS.iloadN X0.here hx rfl (hb hby danc_18) rfl ?_
        exact k)
      by_cases w0 : (own_par pb pc y) = x
      · skip
        have hf : own_anc x y pb pc = 1 := by rw [own_anc, if_neg hxy, if_neg u0, if_pos w0]
        have pre6 : own_G p e below s₁ s₁ _ _ := fun t k => pre5 t (by
          refine XS.icmpNo X0.here hx rfl (hb hby danc_19) rfl (XT.ii_ne_f w0) ?_
          refine XS.iconst X0.here hx rfl (hb hby danc_22) ?_
          exact k)
        obtain ⟨fs, hr, hrun, hended, hW, hsame⟩ := X0.leave (v := some (.int (1 : Int32))) (fun h => by rw [Bd.returns] at h; cases h)
        refine ⟨_, _, pre6 _ ?_, hrun, hended, _, _, rfl, ?_, ⟨_, rfl⟩, hW, hsame.mono (by decide) (by decide)⟩
        · exact retN X0 hx (t := .boolean) Bd.returns (by simp) (hb hby danc_23) hr
        · show Q_anc Z x y pb pc b1 k1 h0 n0 _ s₁.heap _
          unfold Q_anc; rw [hf]
          rw [e0]
          exact ⟨rfl, N0, rfl⟩
      · skip
        have pq1 := own_pat (pb := pb) (pc := pc) (own_pin hpb hpc u0)
        obtain ⟨cl6, Ar6, kc6, S6, M6, H6, G6⟩ := id V1
        have hin6 := inb_of S6 (j := (own_par pb pc y)) pq1.1
        have hat6 : cl6.slots[((own_par pb pc y)).toNatClampNeg]? = some (.int (own_par pb pc (own_par pb pc y))) := H6.at hin6 pq1.2
        have pre7 : own_G p e below s₁ s₁ _ _ := fun t k => pre5 t (by
          refine XS.icmpYes X0.here hx rfl (pc0 := 19) (pc' := 24) rfl (hb hby danc_19) rfl (XT.ii_ne_t w0) (by decide) (by decide) ?_
          refine XS.aloadN X0.here hx rfl (hb hby danc_24) rfl rfl ?_
          refine XS.iloadN X0.here hx rfl (hb hby danc_25) rfl ?_
          refine X0.iaload hx (j := (own_par pb pc y)) (v := (.int (own_par pb pc (own_par pb pc y)))) (by rw [e0]; exact Ar6.1) (State.isArrayOf_alike hZ.alike Ar6.2.1) Ar6.2.2 hin6 hat6 (g := (mkF m 26 #[own_i x, own_i y, own_r b1, .val (.int (own_par pb pc y)), .unset, .unset] [(.int (own_par pb pc y)), (.ref b1)])) rfl rfl (hb hby danc_26) _ ?_
          refine XS.istore X0.here hx rfl (hb hby danc_27) rfl (l' := #[own_i x, own_i y, own_r b1, .val (.int (own_par pb pc y)), .val (.int (own_par pb pc (own_par pb pc y))), .unset]) rfl ?_
          refine XS.iload X0.here hx rfl (hb hby danc_29) rfl ?_
          exact k)
        by_cases u1 : (own_par pb pc (own_par pb pc y)) < 0
        · skip
          have hf : own_anc x y pb pc = 0 := by rw [own_anc, if_neg hxy, if_neg u0, if_neg w0, if_pos u1]
          have pre8 : own_G p e below s₁ s₁ _ _ := fun t k => pre7 t (by
            refine XS.ifNo X0.here hx rfl (hb hby danc_31) rfl (XT.i0_ge_f u1) ?_
            refine XS.iconst X0.here hx rfl (hb hby danc_34) ?_
            exact k)
          obtain ⟨fs, hr, hrun, hended, hW, hsame⟩ := X0.leave (v := some (.int (0 : Int32))) (fun h => by rw [Bd.returns] at h; cases h)
          refine ⟨_, _, pre8 _ ?_, hrun, hended, _, _, rfl, ?_, ⟨_, rfl⟩, hW, hsame.mono (by decide) (by decide)⟩
          · exact retN X0 hx (t := .boolean) Bd.returns (by simp) (hb hby danc_35) hr
          · show Q_anc Z x y pb pc b1 k1 h0 n0 _ s₁.heap _
            unfold Q_anc; rw [hf]
            rw [e0]
            exact ⟨rfl, N0, rfl⟩
        · skip
          have pre8 : own_G p e below s₁ s₁ _ _ := fun t k => pre7 t (by
            refine XS.ifYes X0.here hx rfl (pc0 := 31) (pc' := 36) rfl (hb hby danc_31) rfl (XT.i0_ge_t u1) (by decide) (by decide) ?_
            refine XS.iload X0.here hx rfl (hb hby danc_36) rfl ?_
            refine XS.iloadN X0.here hx rfl (hb hby danc_38) rfl ?_
            exact k)
          by_cases w1 : (own_par pb pc (own_par pb pc y)) = x
          · skip
            have hf : own_anc x y pb pc = 1 := by rw [own_anc, if_neg hxy, if_neg u0, if_neg w0, if_neg u1, if_pos w1]
            have pre9 : own_G p e below s₁ s₁ _ _ := fun t k => pre8 t (by
              refine XS.icmpNo X0.here hx rfl (hb hby danc_39) rfl (XT.ii_ne_f w1) ?_
              refine XS.iconst X0.here hx rfl (hb hby danc_42) ?_
              exact k)
            obtain ⟨fs, hr, hrun, hended, hW, hsame⟩ := X0.leave (v := some (.int (1 : Int32))) (fun h => by rw [Bd.returns] at h; cases h)
            refine ⟨_, _, pre9 _ ?_, hrun, hended, _, _, rfl, ?_, ⟨_, rfl⟩, hW, hsame.mono (by decide) (by decide)⟩
            · exact retN X0 hx (t := .boolean) Bd.returns (by simp) (hb hby danc_43) hr
            · show Q_anc Z x y pb pc b1 k1 h0 n0 _ s₁.heap _
              unfold Q_anc; rw [hf]
              rw [e0]
              exact ⟨rfl, N0, rfl⟩
          · skip
            have pq2 := own_pat (pb := pb) (pc := pc) (own_pin hpb hpc u1)
            obtain ⟨cl9, Ar9, kc9, S9, M9, H9, G9⟩ := id V1
            have hin9 := inb_of S9 (j := (own_par pb pc (own_par pb pc y))) pq2.1
            have hat9 : cl9.slots[((own_par pb pc (own_par pb pc y))).toNatClampNeg]? = some (.int (own_par pb pc (own_par pb pc (own_par pb pc y)))) := H9.at hin9 pq2.2
            have pre10 : own_G p e below s₁ s₁ _ _ := fun t k => pre8 t (by
              refine XS.icmpYes X0.here hx rfl (pc0 := 39) (pc' := 44) rfl (hb hby danc_39) rfl (XT.ii_ne_t w1) (by decide) (by decide) ?_
              refine XS.aloadN X0.here hx rfl (hb hby danc_44) rfl rfl ?_
              refine XS.iload X0.here hx rfl (hb hby danc_45) rfl ?_
              refine X0.iaload hx (j := (own_par pb pc (own_par pb pc y))) (v := (.int (own_par pb pc (own_par pb pc (own_par pb pc y))))) (by rw [e0]; exact Ar9.1) (State.isArrayOf_alike hZ.alike Ar9.2.1) Ar9.2.2 hin9 hat9 (g := (mkF m 47 #[own_i x, own_i y, own_r b1, .val (.int (own_par pb pc y)), .val (.int (own_par pb pc (own_par pb pc y))), .unset] [(.int (own_par pb pc (own_par pb pc y))), (.ref b1)])) rfl rfl (hb hby danc_47) _ ?_
              refine XS.istore X0.here hx rfl (hb hby danc_48) rfl (l' := #[own_i x, own_i y, own_r b1, .val (.int (own_par pb pc y)), .val (.int (own_par pb pc (own_par pb pc y))), .val (.int (own_par pb pc (own_par pb pc (own_par pb pc y))))]) rfl ?_
              refine XS.iload X0.here hx rfl (hb hby danc_50) rfl ?_
              exact k)
            by_cases u2 : (own_par pb pc (own_par pb pc (own_par pb pc y))) < 0
            · skip
              have hf : own_anc x y pb pc = 0 := by rw [own_anc, if_neg hxy, if_neg u0, if_neg w0, if_neg u1, if_neg w1, if_pos u2]
              have pre11 : own_G p e below s₁ s₁ _ _ := fun t k => pre10 t (by
                refine XS.ifNo X0.here hx rfl (hb hby danc_52) rfl (XT.i0_ge_f u2) ?_
                refine XS.iconst X0.here hx rfl (hb hby danc_55) ?_
                exact k)
              obtain ⟨fs, hr, hrun, hended, hW, hsame⟩ := X0.leave (v := some (.int (0 : Int32))) (fun h => by rw [Bd.returns] at h; cases h)
              refine ⟨_, _, pre11 _ ?_, hrun, hended, _, _, rfl, ?_, ⟨_, rfl⟩, hW, hsame.mono (by decide) (by decide)⟩
              · exact retN X0 hx (t := .boolean) Bd.returns (by simp) (hb hby danc_56) hr
              · show Q_anc Z x y pb pc b1 k1 h0 n0 _ s₁.heap _
                unfold Q_anc; rw [hf]
                rw [e0]
                exact ⟨rfl, N0, rfl⟩
            · skip
              have pre11 : own_G p e below s₁ s₁ _ _ := fun t k => pre10 t (by
                refine XS.ifYes X0.here hx rfl (pc0 := 52) (pc' := 57) rfl (hb hby danc_52) rfl (XT.i0_ge_t u2) (by decide) (by decide) ?_
                refine XS.iload X0.here hx rfl (hb hby danc_57) rfl ?_
                refine XS.iloadN X0.here hx rfl (hb hby danc_59) rfl ?_
                exact k)
              by_cases w2 : (own_par pb pc (own_par pb pc (own_par pb pc y))) = x
              · skip
                have hf : own_anc x y pb pc = 1 := by rw [own_anc, if_neg hxy, if_neg u0, if_neg w0, if_neg u1, if_neg w1, if_neg u2, if_pos w2]
                have pre12 : own_G p e below s₁ s₁ _ _ := fun t k => pre11 t (by
                  refine XS.icmpNo X0.here hx rfl (hb hby danc_60) rfl (XT.ii_ne_f w2) ?_
                  refine XS.iconst X0.here hx rfl (hb hby danc_63) ?_
                  refine XS.goto X0.here hx rfl (pc0 := 64) (pc' := 68) rfl (hb hby danc_64) (by decide) (by decide) ?_
                  exact k)
                obtain ⟨fs, hr, hrun, hended, hW, hsame⟩ := X0.leave (v := some (.int (1 : Int32))) (fun h => by rw [Bd.returns] at h; cases h)
                refine ⟨_, _, pre12 _ ?_, hrun, hended, _, _, rfl, ?_, ⟨_, rfl⟩, hW, hsame.mono (by decide) (by decide)⟩
                · exact retN X0 hx (t := .boolean) Bd.returns (by simp) (hb hby danc_68) hr
                · show Q_anc Z x y pb pc b1 k1 h0 n0 _ s₁.heap _
                  unfold Q_anc; rw [hf]
                  rw [e0]
                  exact ⟨rfl, N0, rfl⟩
              · skip
                have hf : own_anc x y pb pc = 0 := by rw [own_anc, if_neg hxy, if_neg u0, if_neg w0, if_neg u1, if_neg w1, if_neg u2, if_neg w2]
                have pre12 : own_G p e below s₁ s₁ _ _ := fun t k => pre11 t (by
                  refine XS.icmpYes X0.here hx rfl (pc0 := 60) (pc' := 67) rfl (hb hby danc_60) rfl (XT.ii_ne_t w2) (by decide) (by decide) ?_
                  refine XS.iconst X0.here hx rfl (hb hby danc_67) ?_
                  exact k)
                obtain ⟨fs, hr, hrun, hended, hW, hsame⟩ := X0.leave (v := some (.int (0 : Int32))) (fun h => by rw [Bd.returns] at h; cases h)
                refine ⟨_, _, pre12 _ ?_, hrun, hended, _, _, rfl, ?_, ⟨_, rfl⟩, hW, hsame.mono (by decide) (by decide)⟩
                · exact retN X0 hx (t := .boolean) Bd.returns (by simp) (hb hby danc_68) hr
                · show Q_anc Z x y pb pc b1 k1 h0 n0 _ s₁.heap _
                  unfold Q_anc; rw [hf]
                  rw [e0]
                  exact ⟨rfl, N0, rfl⟩
theorem own_ad {xs : List Addr} {x : Addr} (h : xs.length ≤ 4) : (¬ Int32.ofNat xs.length < 0 ∧ Int32.ofNat xs.length < (10 : Int32)) ∧ ¬ Int32.ofNat xs.length = (10 : Int32) ∧ (Int32.ofNat xs.length).toNatClampNeg = (xs.map Value.ref).length ∧ Int32.ofNat xs.length + (1 : Int32) = Int32.ofNat (xs ++ [x]).length := by
  rw [List.length_map, List.length_append, List.length_singleton]
  generalize xs.length = p at *
  have hp : p = 0 ∨ p = 1 ∨ p = 2 ∨ p = 3 ∨ p = 4 := by omega
  rcases hp with rfl | rfl | rfl | rfl | rfl <;> exact ⟨by decide, by decide, by decide, by decide⟩
theorem own_w2 {a b : Addr} (h : a < b) : ∀ w ∈ [a, b], a ≤ w := fun w hw => by
  simp only [List.mem_cons, List.not_mem_nil, or_false] at hw
  rcases hw with rfl | rfl
  · exact Nat.le_refl _
  · exact Nat.le_of_lt h
theorem dad_0 : decode own_k4 0 = .ok (.aload_n 0, 1) := by decide +kernel
theorem dad_1 : decode own_k4 1 = .ok (.dup, 1) := by decide +kernel
theorem dad_2 : decode own_k4 2 = .ok (.getfield 63, 3) := by decide +kernel
theorem dad_5 : decode own_k4 5 = .ok (.iconst 1, 1) := by decide +kernel
theorem dad_6 : decode own_k4 6 = .ok (.iadd, 1) := by decide +kernel
theorem dad_7 : decode own_k4 7 = .ok (.putfield 63, 3) := by decide +kernel
theorem dad_10 : decode own_k4 10 = .ok (.aload_n 0, 1) := by decide +kernel
theorem dad_11 : decode own_k4 11 = .ok (.aload_n 1, 1) := by decide +kernel
theorem dad_12 : decode own_k4 12 = .ok (.aload_n 0, 1) := by decide +kernel
theorem dad_13 : decode own_k4 13 = .ok (.getfield 9, 3) := by decide +kernel
theorem dad_16 : decode own_k4 16 = .ok (.aload_n 0, 1) := by decide +kernel
theorem dad_17 : decode own_k4 17 = .ok (.getfield 48, 3) := by decide +kernel
theorem dad_20 : decode own_k4 20 = .ok (.invokevirtual 131, 3) := by decide +kernel
theorem dad_23 : decode own_k4 23 = .ok (.iconst 1, 1) := by decide +kernel
theorem dad_24 : decode own_k4 24 = .ok (.ireturn, 1) := by decide +kernel
theorem ef_ad (m : MethodId) (a1 : Addr) (x1 : Addr) : entryFrame m #[(.ref a1), (.ref x1)] 2 = (mkF m 0 #[own_r a1, own_r x1] []) := by first | (simp [entryFrame, mkF, argsToLocals, Value.category]; done) | rfl
def Q_ad (Z : State) (a1 x1 de : Addr) (kd : ClassId) (xs : List Addr) (h0 : Heap) (n0 : Nat) (v : Option Value) (h : Heap) (L : List Loc) : Prop := ∃ ws : List Addr, v = some (.int 1) ∧ Fr n0 L ∧ Keep h0 h ws ∧ (∀ w ∈ ws, a1 ≤ w) ∧ own_AL Z h de a1 (xs ++ [x1])
theorem rm_ad (l : Launch) (Z : State) (a0 : Array Value) (hw : own_W a0 Z) (ws : List Jvm.Cond) (a1 x1 de : Addr) (kd : ClassId) (xs : List Addr) (h0 : Heap) (n0 : Nat) (Z0 : n0 ≤ h0.size) (SDE : Sta Z h0 "java/util/ArrayList" "DEFAULTCAPACITY_EMPTY_ELEMENTDATA" "[Ljava/lang/Object;" (.ref de)) (DA : Arv Z h0 de kd (.object "java/lang/Object") (0 : Int32) [] .null) (A1 : own_AL Z h0 de a1 xs) (EX : Exa Z h0 x1 "com/example/tributary/tributary/merge/Tree") (h4 : xs.length ≤ 4) (g_a1 : n0 ≤ a1)  :
    own_M l Z h0 ws own_y1 jdk_38_method_25_code 2 (some .boolean) (⟨4, 1, 10, 78⟩ : Room) #[(.ref a1), (.ref x1)] (Q_ad Z a1 x1 de kd xs h0 n0) := by
  refine MetFree.of_bodySF (plainFor_of_name pn_ali) hisR ?_
  intro p e s m args below meth c s₁ Bd hml0 hP hK
  obtain ⟨rfl, hZ, hh⟩ := hP
  have hx := Bd.exec
  have hby := Bd.bytes
  have hml : c.maxLocals = 2 := hml0
  have hown : s.vm.findClass "java/util/ArrayList" = some m.cls := findClass_of_methodNamed Bd.named
  have hnm := (name_of_methodNamed Bd.named Bd.method).1
  have X0 : Stand p l e (⟨4, 1, 10, 78⟩ : Room) s m #[(.ref a1), (.ref x1)] below meth c s₁ [] 0 0 := Stand.of_body Bd
  have e0 : s₁.heap = h0 := by rw [← hh, Bd.state]; rfl
  have N0 := Fr.nil n0
  have pre0 : ∀ t, Steps p.tables e below (s₁.setTop (mkF m 0 #[own_r a1, own_r x1] [])) t → Steps p.tables e below (s₁.setTop (entryFrame m #[(.ref a1), (.ref x1)] 2)) t := fun t k => castTop (ef_ad m a1 x1) k
  obtain ⟨E1, ⟨m1, F1⟩, F3, D1⟩ := id A1
  have ne_a1_de : a1 ≠ de := E1.neArv DA (own_h hw 2 rfl)
  rcases D1 with ⟨hxs, F2⟩ | ⟨hxs, b1, k1, hlt, F2, V1, O1, EB⟩
  · have F4 : Fld Z h0 a1 "java/util/ArrayList" "size" "I" (.int (0 : Int32)) := by have q := F3; rw [hxs] at q; exact q
    have K2 : Keep h0 h0 [a1] := Keep.refl h0 [a1]
    have pre3 : own_G p e below s₁ s₁ _ _ := fun t k => pre0 t (by
      refine XS.aloadN X0.here hx rfl (hb hby dad_0) rfl rfl ?_
      refine XS.dup X0.here hx rfl (hb hby dad_1) rfl rfl ?_
      exact k)
    obtain ⟨T4, X4, e4, st4⟩ := getF X0 hx hZ hown (host := "") (Or.inl (own_h hw 193 rfl)) (Via.of (own_h hw 167 rfl)) e0 F1 (g := (mkF m 2 #[own_r a1, own_r x1] [(.ref a1), (.ref a1)])) rfl rfl (hb hby dad_2)
    have pre5 : own_G p e below T4 s₁ _ _ := fun t k => pre3 t (by
      refine st4 _ ?_
      refine XS.iconst X4.here hx rfl (hb hby dad_5) ?_
      refine XS.iadd X4.here hx rfl (hb hby dad_6) rfl ?_
      exact k)
    obtain ⟨T6, h6, X6, e6, W6, st6⟩ := putF X4 hx hZ hown (host := "") (Or.inl (own_h hw 193 rfl)) (Via.of (own_h hw 167 rfl)) e4 F1 E1 (Or.inl (own_h hw 23 rfl)) (own_h hw 2 rfl) (ty := .int) (by decide) rfl rfl (g := (mkF m 7 #[own_r a1, own_r x1] [(.int (m1 + (1 : Int32))), (.ref a1)])) rfl rfl (hb hby dad_7)
    have F6 := F1.same W6
    have N6 := Fr.snoc X6 N0 g_a1
    have f7_0 := E1.wr W6
    have f7_2 := F2.other W6 (Or.inr (own_sn (own_l26 hw) (own_l23 hw) (by decide)))
    have f7_3 := F4.other W6 (Or.inr (own_sn (own_l80 hw) (own_l23 hw) (by decide)))
    have f7_4 := DA.other W6 ne_a1_de.symm
    have f7_5 := SDE.wr W6
    have f7_6 := EX.wr W6
    have K8 := K2.wr W6 (Or.inl (List.mem_of_getElem? (i := 0) rfl))
    have Z6 : n0 ≤ h6.size := Nat.le_trans Z0 (Keep.of_wr W6).1
    have pre9 : own_G p e below T6 s₁ _ _ := fun t k => pre5 t (by
      refine st6 _ ?_
      refine XS.aloadN X6.here hx rfl (hb hby dad_10) rfl rfl ?_
      refine XS.aloadN X6.here hx rfl (hb hby dad_11) rfl rfl ?_
      refine XS.aloadN X6.here hx rfl (hb hby dad_12) rfl rfl ?_
      exact k)
    obtain ⟨T10, X10, e10, st10⟩ := getF X6 hx hZ hown (host := "") (Or.inl (own_h hw 25 rfl)) Via.refl e6 f7_2 (g := (mkF m 13 #[own_r a1, own_r x1] [(.ref a1), (.ref x1), (.ref a1)])) rfl rfl (hb hby dad_13)
    have pre11 : own_G p e below T10 s₁ _ _ := fun t k => pre9 t (by
      refine st10 _ ?_
      refine XS.aloadN X10.here hx rfl (hb hby dad_16) rfl rfl ?_
      exact k)
    obtain ⟨T12, X12, e12, st12⟩ := getF X10 hx hZ hown (host := "") (Or.inl (own_h hw 79 rfl)) Via.refl e10 f7_3 (g := (mkF m 17 #[own_r a1, own_r x1] [(.ref a1), (.ref de), (.ref x1), (.ref a1)])) rfl rfl (hb hby dad_17)
    have pre13 : own_G p e below T12 s₁ _ _ := fun t k => pre11 t (by
      refine st12 _ ?_
      exact k)
    obtain ⟨cq14, q14a, q14b⟩ := f7_0.cell
    obtain ⟨_, _, ⟨T14, L14, kk14, nn14⟩, -, X14, ⟨Lc14, hQ14, l14, y14, z14⟩, st14⟩ := X12.privateBack hx (y := own_y8) hown (mvT hZ (own_h hw 194 rfl)) (mvT hZ (own_h hw 195 rfl)) (mvT hZ (own_h hw 197 rfl)) (Cond.privateMethod_at (mvP hZ (own_h hw 196 rfl) (args := #[]))) (mvT hZ (own_h hw 198 rfl)) (by decide) (backOf (W := 0) (rm_a3g l Z a0 hw [] a1 x1 de (m1 + (1 : Int32)) kd h6 n0 Z6 f7_5 f7_0 F6 f7_2 f7_3 f7_6 f7_4 g_a1 ne_a1_de) hZ (own_h hw 198 rfl) (own_h hw 3 rfl) (by decide) (by decide)) (g := (mkF m 20 #[own_r a1, own_r x1] [(.int (0 : Int32)), (.ref de), (.ref x1), (.ref a1)])) rfl (by rw [hml]; rfl) (Steps.refl _) (a := a1) (by rw [e12]; exact q14a) q14b (argsL := [(.ref x1), (.ref de), (.int (0 : Int32))]) (rest := []) (lenOf pd__Ljava_lang_Object__Ljava_lang_Object_I_V rfl) rfl (by show 2 * 0 + _ ≤ _; exact Nat.le_of_eq rfl) (hb hby dad_20) (fun _ _ => ⟨rfl, e12, (by decide : 0 + 1 ≤ _), (by decide : 0 + 10 ≤ _)⟩)
    dsimp only [Pt.U, Pt.locs, Pt.cells, Pt.slots] at X14 l14 y14 z14 st14 hQ14
    subst l14 y14 z14
    obtain ⟨br14, kr14, rfl, N14q, Kc14, g_br14, sr14, Fm14, Fe14, Fz14, Vr14, Or14, Ea14⟩ := hQ14
    have N14 := Fr.app N6 N14q
    have f15_0 := f7_0.keep Kc14
    have f15_3 := f7_4.keep Kc14 (own_nm1 ne_a1_de.symm)
    have f15_4 := own_sta_keep f7_5 Kc14 (by intro x hx; simp only [List.mem_cons, List.not_mem_nil, or_false] at hx; rcases hx with rfl; exact own_ns_exa f7_0)
    have f15_5 := f7_6.keep Kc14
    have K16 := K8.trans Kc14 (fun x hx => by cases List.mem_singleton.mp hx; exact (Or.inl (List.mem_of_getElem? (i := 0) rfl)))
    have Z14 : n0 ≤ T14.heap.size := Nat.le_trans Z6 Kc14.1
    have e14 : T14.heap = T14.heap := rfl
    have pre17 : own_G p e below T14 s₁ _ _ := fun t k => pre13 t (by
      refine st14.trans ?_
      refine XS.iconst X14.here hx rfl (hb hby dad_23) ?_
      exact k)
    obtain ⟨fs, hr, hrun, hended, hW, hsame⟩ := X14.leave (v := some (.int (1 : Int32))) (fun h => by rw [Bd.returns] at h; cases h)
    refine ⟨_, _, pre17 _ ?_, hrun, hended, _, _, rfl, ?_, ⟨_, rfl⟩, hW, hsame.mono (by decide) (by decide)⟩
    · exact retN X14 hx (t := .boolean) Bd.returns (by simp) (hb hby dad_24) hr
    · show Q_ad Z a1 x1 de kd xs h0 n0 _ T14.heap _
      skip
      exact ⟨[a1], rfl, N14, K16, fun w hw => by cases List.mem_singleton.mp hw; exact Nat.le_refl _, f15_0, ⟨_, Fm14⟩, by rw [hxs]; exact Fz14, Or.inr ⟨by simp, br14, kr14, Nat.lt_of_lt_of_le E1.lt (Nat.le_trans K8.1 sr14), Fe14, by rw [hxs]; exact Vr14, Or14, Ea14⟩⟩
  · obtain ⟨p1, p2, p3, p4⟩ := own_ad (x := x1) h4
    have ne_a1_b1 : a1 ≠ b1 := Nat.ne_of_lt hlt
    have g_b1 : n0 ≤ b1 := Nat.le_trans g_a1 (Nat.le_of_lt hlt)
    have K18 : Keep h0 h0 [a1, b1] := Keep.refl h0 [a1, b1]
    have pre19 : own_G p e below s₁ s₁ _ _ := fun t k => pre0 t (by
      refine XS.aloadN X0.here hx rfl (hb hby dad_0) rfl rfl ?_
      refine XS.dup X0.here hx rfl (hb hby dad_1) rfl rfl ?_
      exact k)
    obtain ⟨T20, X20, e20, st20⟩ := getF X0 hx hZ hown (host := "") (Or.inl (own_h hw 193 rfl)) (Via.of (own_h hw 167 rfl)) e0 F1 (g := (mkF m 2 #[own_r a1, own_r x1] [(.ref a1), (.ref a1)])) rfl rfl (hb hby dad_2)
    have pre21 : own_G p e below T20 s₁ _ _ := fun t k => pre19 t (by
      refine st20 _ ?_
      refine XS.iconst X20.here hx rfl (hb hby dad_5) ?_
      refine XS.iadd X20.here hx rfl (hb hby dad_6) rfl ?_
      exact k)
    obtain ⟨T22, h22, X22, e22, W22, st22⟩ := putF X20 hx hZ hown (host := "") (Or.inl (own_h hw 193 rfl)) (Via.of (own_h hw 167 rfl)) e20 F1 E1 (Or.inl (own_h hw 23 rfl)) (own_h hw 2 rfl) (ty := .int) (by decide) rfl rfl (g := (mkF m 7 #[own_r a1, own_r x1] [(.int (m1 + (1 : Int32))), (.ref a1)])) rfl rfl (hb hby dad_7)
    have F22 := F1.same W22
    have N22 := Fr.snoc X22 N0 g_a1
    have f23_0 := E1.wr W22
    have f23_2 := F2.other W22 (Or.inr (own_sn (own_l26 hw) (own_l23 hw) (by decide)))
    have f23_3 := F3.other W22 (Or.inr (own_sn (own_l80 hw) (own_l23 hw) (by decide)))
    have f23_4 := V1.other W22 ne_a1_b1.symm
    have f23_5 := EX.wr W22
    have K24 := K18.wr W22 (Or.inl (List.mem_of_getElem? (i := 0) rfl))
    have Z22 : n0 ≤ h22.size := Nat.le_trans Z0 (Keep.of_wr W22).1
    have pre25 : own_G p e below T22 s₁ _ _ := fun t k => pre21 t (by
      refine st22 _ ?_
      refine XS.aloadN X22.here hx rfl (hb hby dad_10) rfl rfl ?_
      refine XS.aloadN X22.here hx rfl (hb hby dad_11) rfl rfl ?_
      refine XS.aloadN X22.here hx rfl (hb hby dad_12) rfl rfl ?_
      exact k)
    obtain ⟨T26, X26, e26, st26⟩ := getF X22 hx hZ hown (host := "") (Or.inl (own_h hw 25 rfl)) Via.refl e22 f23_2 (g := (mkF m 13 #[own_r a1, own_r x1] [(.ref a1), (.ref x1), (.ref a1)])) rfl rfl (hb hby dad_13)
    have pre27 : own_G p e below T26 s₁ _ _ := fun t k => pre25 t (by
      refine st26 _ ?_
      refine XS.aloadN X26.here hx rfl (hb hby dad_16) rfl rfl ?_
      exact k)
    obtain ⟨T28, X28, e28, st28⟩ := getF X26 hx hZ hown (host := "") (Or.inl (own_h hw 79 rfl)) Via.refl e26 f23_3 (g := (mkF m 17 #[own_r a1, own_r x1] [(.ref a1), (.ref b1), (.ref x1), (.ref a1)])) rfl rfl (hb hby dad_17)
    have pre29 : own_G p e below T28 s₁ _ _ := fun t k => pre27 t (by
      refine st28 _ ?_
      exact k)
    obtain ⟨cq30, q30a, q30b⟩ := f23_0.cell
    obtain ⟨_, _, ⟨T30, L30, kk30, nn30⟩, -, X30, ⟨Lc30, hQ30, l30, y30, z30⟩, st30⟩ := X28.privateBack hx (y := own_y8) hown (mvT hZ (own_h hw 194 rfl)) (mvT hZ (own_h hw 195 rfl)) (mvT hZ (own_h hw 197 rfl)) (Cond.privateMethod_at (mvP hZ (own_h hw 196 rfl) (args := #[]))) (mvT hZ (own_h hw 198 rfl)) (by decide) (backOf (W := 0) (rm_a3r l Z a0 hw [] a1 x1 b1 (m1 + (1 : Int32)) (Int32.ofNat xs.length) (Int32.ofNat (xs ++ [x1]).length) (10 : Int32) k1 (xs.map Value.ref) h22 n0 Z22 f23_0 F22 f23_2 f23_3 f23_4 O1 f23_5 g_a1 g_b1 ne_a1_b1 p1 p2 p3 p4) hZ (own_h hw 198 rfl) (own_h hw 3 rfl) (by decide) (by decide)) (g := (mkF m 20 #[own_r a1, own_r x1] [(.int (Int32.ofNat xs.length)), (.ref b1), (.ref x1), (.ref a1)])) rfl (by rw [hml]; rfl) (Steps.refl _) (a := a1) (by rw [e28]; exact q30a) q30b (argsL := [(.ref x1), (.ref b1), (.int (Int32.ofNat xs.length))]) (rest := []) (lenOf pd__Ljava_lang_Object__Ljava_lang_Object_I_V rfl) rfl (by show 2 * 0 + _ ≤ _; exact Nat.le_of_eq rfl) (hb hby dad_20) (fun _ _ => ⟨rfl, e28, (by decide : 0 + 0 ≤ _), (by decide : 0 + 0 ≤ _)⟩)
    dsimp only [Pt.U, Pt.locs, Pt.cells, Pt.slots] at X30 l30 y30 z30 st30 hQ30
    subst l30 y30 z30
    obtain ⟨rfl, N30q, Kc30, Fm30, Fe30, Fz30, Va30⟩ := hQ30
    have N30 := Fr.app N22 N30q
    have f31_0 := f23_0.keep Kc30
    have f31_4 := f23_5.keep Kc30
    have K32 := K24.trans Kc30 (by intro x hx; simp only [List.mem_cons, List.not_mem_nil, or_false] at hx; rcases hx with rfl | rfl; exact (Or.inl (List.mem_of_getElem? (i := 0) rfl)); exact (Or.inl (List.mem_of_getElem? (i := 1) rfl)))
    have Z30 : n0 ≤ T30.heap.size := Nat.le_trans Z22 Kc30.1
    have e30 : T30.heap = T30.heap := rfl
    have pre33 : own_G p e below T30 s₁ _ _ := fun t k => pre29 t (by
      refine st30.trans ?_
      refine XS.iconst X30.here hx rfl (hb hby dad_23) ?_
      exact k)
    obtain ⟨fs, hr, hrun, hended, hW, hsame⟩ := X30.leave (v := some (.int (1 : Int32))) (fun h => by rw [Bd.returns] at h; cases h)
    refine ⟨_, _, pre33 _ ?_, hrun, hended, _, _, rfl, ?_, ⟨_, rfl⟩, hW, hsame.mono (by decide) (by decide)⟩
    · exact retN X30 hx (t := .boolean) Bd.returns (by simp) (hb hby dad_24) hr
    · show Q_ad Z a1 x1 de kd xs h0 n0 _ T30.heap _
      skip
      exact ⟨[a1, b1], rfl, N30, K32, own_w2 hlt, f31_0, ⟨_, Fm30⟩, Fz30, Or.inr ⟨by simp, b1, k1, hlt, Fe30, by rw [List.map_append]; exact Va30, O1, EB.keep K32⟩⟩
def own_Inv (Z : State) (h : Heap) (em : Addr) (N : Nat) (D : List Addr) (K : Addr → List Addr) (S f : Addr → Int32) : Prop := ∀ x ∈ D, Exa Z h x "com/example/tributary/tributary/merge/Tree" ∧ (∃ l, Fld Z h x "com/example/tributary/tributary/merge/Tree" "children" "Ljava/util/List;" (.ref l) ∧ own_Kids Z h em N l (K x)) ∧ Fld Z h x "com/example/tributary/tributary/merge/Tree" "size" "I" (.int (S x)) ∧ Fld Z h x "com/example/tributary/tributary/merge/Tree" "pre" "I" (.int (f x)) ∧ ∃ v : Value, Fld Z h x "com/example/tributary/tributary/merge/Tree" "parent" "Lcom/example/tributary/tributary/merge/Tree;" v
def own_upd (f : Addr → Int32) (x : Addr) (k : Int32) : Addr → Int32 := fun y => if y = x then k else f y
def own_fin : List Addr → Int32 → (Addr → Int32) → Addr → Int32
  | [], _, f => f
  | x :: r, k, f => own_fin r (k + 1) (own_upd f x k)
def own_ok (D : List Addr) (K : Addr → List Addr) : List Addr → List Addr → Prop
  | [], stk => stk = []
  | x :: post, stk => ∃ sk0, stk = sk0 ++ [x] ∧ x ∈ D ∧ (∀ y ∈ K x, y ∈ D ∧ y ≠ x) ∧ sk0.length + (K x).length ≤ 4 ∧ own_ok D K post (sk0 ++ (K x).reverse)
theorem own_Inv_keep {Z : State} {h h' : Heap} {em : Addr} {N : Nat} {D : List Addr} {K : Addr → List Addr} {S f : Addr → Int32} {a0 : Array Value} (w : (Jvm.Cond.instantiable "com/example/tributary/tributary/merge/Tree" 18).before a0 Z = true) (I : own_Inv Z h em N D K S f) (Kp : Keep h h' []) : own_Inv Z h' em N D K S f := fun x hx => by
  obtain ⟨E, ⟨lx, Gx, Dx⟩, Sx, Px, vx, Qx⟩ := I x hx
  exact ⟨E.keep Kp, ⟨lx, Gx.keep Kp (by simp), own_Kids_keep w Dx Kp (fun y hy => by cases hy)⟩, Sx.keep Kp (by simp), Px.keep Kp (by simp), vx, Qx.keep Kp (by simp)⟩
theorem own_Inv_upd {Z : State} {h h' : Heap} {em c l : Addr} {N : Nat} {D ws : List Addr} {K : Addr → List Addr} {S f f' : Addr → Int32} {q : Int32} {v : Value} {a0 : Array Value} (w : (Jvm.Cond.instantiable "com/example/tributary/tributary/merge/Tree" 18).before a0 Z = true) (hD : ∀ x ∈ D, x < N) (I : own_Inv Z h em N D K S f) (hc : c ∈ D) (Kp : Keep h h' ws) (hq : ∀ y ∈ ws, y = c ∨ N ≤ y) (G : Fld Z h' c "com/example/tributary/tributary/merge/Tree" "children" "Ljava/util/List;" (.ref l)) (KD : own_Kids Z h em N l (K c)) (Sc : Fld Z h' c "com/example/tributary/tributary/merge/Tree" "size" "I" (.int (S c))) (Pc : Fld Z h' c "com/example/tributary/tributary/merge/Tree" "pre" "I" (.int q)) (e : f' c = q) (Qc : Fld Z h' c "com/example/tributary/tributary/merge/Tree" "parent" "Lcom/example/tributary/tributary/merge/Tree;" v) (hf : ∀ y, y ≠ c → f' y = f y) : own_Inv Z h' em N D K S f' := fun x hx => by
  have kk : ∀ y ∈ ws, N ≤ y ∨ Exa Z h y "com/example/tributary/tributary/merge/Tree" := fun y hy => by
    rcases hq y hy with h1 | h1
    · rw [h1]; exact Or.inr (I c hc).1
    · exact Or.inl h1
  by_cases hxc : x = c
  · rw [hxc]
    exact ⟨(I c hc).1.keep Kp, ⟨l, G, own_Kids_keep w KD Kp kk⟩, Sc, by rw [e]; exact Pc, v, Qc⟩
  · obtain ⟨E, ⟨lx, Gx, Dx⟩, Sx, Px, vx, Qx⟩ := I x hx
    have nx : x ∉ ws := fun hm => by
      rcases hq x hm with h1 | h1
      · exact hxc h1
      · exact absurd (hD x hx) (Nat.not_lt.mpr h1)
    exact ⟨E.keep Kp, ⟨lx, Gx.keep Kp nx, own_Kids_keep w Dx Kp kk⟩, Sx.keep Kp nx, by rw [hf x hxc]; exact Px.keep Kp nx, vx, Qx.keep Kp nx⟩
theorem own_ma (l : List Addr) (x : Addr) : (l ++ [x]).map Value.ref = l.map Value.ref ++ [Value.ref x] := by simp
theorem own_rm {sk0 : List Addr} {x : Addr} (h : sk0.length ≤ 4) : own_em (Int32.ofNat (sk0 ++ [x]).length) = 0 ∧ Int32.ofNat (sk0 ++ [x]).length - (1 : Int32) = Int32.ofNat sk0.length ∧ (¬ Int32.ofNat sk0.length < 0 ∧ Int32.ofNat sk0.length < (10 : Int32)) ∧ (Int32.ofNat sk0.length).toNatClampNeg = (sk0.map Value.ref).length ∧ Int32.ofNat sk0.length < Int32.ofNat (sk0 ++ [x]).length := by
  rw [List.length_map, List.length_append, List.length_singleton]
  generalize sk0.length = p at *
  have hp : p = 0 ∨ p = 1 ∨ p = 2 ∨ p = 3 ∨ p = 4 := by omega
  rcases hp with rfl | rfl | rfl | rfl | rfl <;> exact ⟨by decide, by decide, by decide, by decide, by decide⟩
theorem own_ad4 {xs : List Addr} {x : Addr} (h : xs.length ≤ 3) : (¬ Int32.ofNat xs.length < 0 ∧ Int32.ofNat xs.length < (4 : Int32)) ∧ ¬ Int32.ofNat xs.length = (4 : Int32) ∧ (Int32.ofNat xs.length).toNatClampNeg = (xs.map Value.ref).length ∧ Int32.ofNat xs.length + (1 : Int32) = Int32.ofNat (xs ++ [x]).length := by
  rw [List.length_map, List.length_append, List.length_singleton]
  generalize xs.length = p at *
  have hp : p = 0 ∨ p = 1 ∨ p = 2 ∨ p = 3 := by omega
  rcases hp with rfl | rfl | rfl | rfl <;> exact ⟨by decide, by decide, by decide, by decide⟩
theorem own_fn {D : List Addr} {N : Nat} {ws : List Addr} {c : Addr} (q : ∀ y ∈ ws, y = c ∨ N ≤ y) : ∀ y ∈ ws, y = c ∨ N ≤ y := q
theorem didx_0 : decode own_k2 0 = .ok (.new 115, 3) := by decide +kernel
theorem didx_3 : decode own_k2 3 = .ok (.dup, 1) := by decide +kernel
theorem didx_4 : decode own_k2 4 = .ok (.aload_n 0, 1) := by decide +kernel
theorem didx_5 : decode own_k2 5 = .ok (.getfield 87, 3) := by decide +kernel
theorem didx_8 : decode own_k2 8 = .ok (.invokespecial 117, 3) := by decide +kernel
theorem didx_11 : decode own_k2 11 = .ok (.astore_n 1, 1) := by decide +kernel
theorem didx_12 : decode own_k2 12 = .ok (.new 115, 3) := by decide +kernel
theorem didx_15 : decode own_k2 15 = .ok (.dup, 1) := by decide +kernel
theorem didx_16 : decode own_k2 16 = .ok (.invokespecial 120, 3) := by decide +kernel
theorem didx_19 : decode own_k2 19 = .ok (.astore_n 2, 1) := by decide +kernel
theorem didx_20 : decode own_k2 20 = .ok (.aload_n 2, 1) := by decide +kernel
theorem didx_21 : decode own_k2 21 = .ok (.aload_n 0, 1) := by decide +kernel
theorem didx_22 : decode own_k2 22 = .ok (.invokevirtual 121, 3) := by decide +kernel
theorem didx_25 : decode own_k2 25 = .ok (.pop, 1) := by decide +kernel
theorem didx_26 : decode own_k2 26 = .ok (.aload_n 2, 1) := by decide +kernel
theorem didx_27 : decode own_k2 27 = .ok (.invokevirtual 125, 3) := by decide +kernel
theorem didx_30 : decode own_k2 30 = .ok (.ifCond .ne 95, 3) := by decide +kernel
theorem didx_33 : decode own_k2 33 = .ok (.aload_n 2, 1) := by decide +kernel
theorem didx_34 : decode own_k2 34 = .ok (.aload_n 2, 1) := by decide +kernel
theorem didx_35 : decode own_k2 35 = .ok (.invokevirtual 128, 3) := by decide +kernel
theorem didx_38 : decode own_k2 38 = .ok (.iconst 1, 1) := by decide +kernel
theorem didx_39 : decode own_k2 39 = .ok (.isub, 1) := by decide +kernel
theorem didx_40 : decode own_k2 40 = .ok (.invokevirtual 130, 3) := by decide +kernel
theorem didx_43 : decode own_k2 43 = .ok (.checkcast 8, 3) := by decide +kernel
theorem didx_46 : decode own_k2 46 = .ok (.astore_n 3, 1) := by decide +kernel
theorem didx_47 : decode own_k2 47 = .ok (.aload_n 3, 1) := by decide +kernel
theorem didx_48 : decode own_k2 48 = .ok (.aload_n 1, 1) := by decide +kernel
theorem didx_49 : decode own_k2 49 = .ok (.invokevirtual 128, 3) := by decide +kernel
theorem didx_52 : decode own_k2 52 = .ok (.putfield 134, 3) := by decide +kernel
theorem didx_55 : decode own_k2 55 = .ok (.aload_n 1, 1) := by decide +kernel
theorem didx_56 : decode own_k2 56 = .ok (.aload_n 3, 1) := by decide +kernel
theorem didx_57 : decode own_k2 57 = .ok (.invokevirtual 121, 3) := by decide +kernel
theorem didx_60 : decode own_k2 60 = .ok (.pop, 1) := by decide +kernel
theorem didx_61 : decode own_k2 61 = .ok (.aload_n 3, 1) := by decide +kernel
theorem didx_62 : decode own_k2 62 = .ok (.getfield 57, 3) := by decide +kernel
theorem didx_65 : decode own_k2 65 = .ok (.invokeinterface 137 1, 5) := by decide +kernel
theorem didx_70 : decode own_k2 70 = .ok (.iconst 1, 1) := by decide +kernel
theorem didx_71 : decode own_k2 71 = .ok (.isub, 1) := by decide +kernel
theorem didx_72 : decode own_k2 72 = .ok (.istore 4, 2) := by decide +kernel
theorem didx_74 : decode own_k2 74 = .ok (.iload 4, 2) := by decide +kernel
theorem didx_76 : decode own_k2 76 = .ok (.ifCond .lt 46, 3) := by decide +kernel
theorem didx_79 : decode own_k2 79 = .ok (.aload_n 3, 1) := by decide +kernel
theorem didx_80 : decode own_k2 80 = .ok (.getfield 57, 3) := by decide +kernel
theorem didx_83 : decode own_k2 83 = .ok (.iload 4, 2) := by decide +kernel
theorem didx_85 : decode own_k2 85 = .ok (.invokeinterface 138 2, 5) := by decide +kernel
theorem didx_90 : decode own_k2 90 = .ok (.checkcast 8, 3) := by decide +kernel
theorem didx_93 : decode own_k2 93 = .ok (.aload_n 3, 1) := by decide +kernel
theorem didx_94 : decode own_k2 94 = .ok (.putfield 141, 3) := by decide +kernel
theorem didx_97 : decode own_k2 97 = .ok (.aload_n 2, 1) := by decide +kernel
theorem didx_98 : decode own_k2 98 = .ok (.aload_n 3, 1) := by decide +kernel
theorem didx_99 : decode own_k2 99 = .ok (.getfield 57, 3) := by decide +kernel
theorem didx_102 : decode own_k2 102 = .ok (.iload 4, 2) := by decide +kernel
theorem didx_104 : decode own_k2 104 = .ok (.invokeinterface 138 2, 5) := by decide +kernel
theorem didx_109 : decode own_k2 109 = .ok (.checkcast 8, 3) := by decide +kernel
theorem didx_112 : decode own_k2 112 = .ok (.invokevirtual 121, 3) := by decide +kernel
theorem didx_115 : decode own_k2 115 = .ok (.pop, 1) := by decide +kernel
theorem didx_116 : decode own_k2 116 = .ok (.iinc 4 (-1), 3) := by decide +kernel
theorem didx_119 : decode own_k2 119 = .ok (.goto (-45), 3) := by decide +kernel
theorem didx_122 : decode own_k2 122 = .ok (.goto (-96), 3) := by decide +kernel
theorem didx_125 : decode own_k2 125 = .ok (.aload_n 1, 1) := by decide +kernel
theorem didx_126 : decode own_k2 126 = .ok (.areturn, 1) := by decide +kernel
theorem pd__I_V : parseMethodDescriptor "(I)V" = some ⟨[.int], none⟩ := by decide +kernel
theorem pd__Ljava_lang_Object__Z : parseMethodDescriptor "(Ljava/lang/Object;)Z" = some ⟨[(.object "java/lang/Object")], some .boolean⟩ := by decide +kernel
theorem pd__I_Ljava_lang_Object_ : parseMethodDescriptor "(I)Ljava/lang/Object;" = some ⟨[.int], some (.object "java/lang/Object")⟩ := by decide +kernel
theorem ef_idx (m : MethodId) (r : Addr) : entryFrame m #[(.ref r)] 5 = (mkF m 0 #[own_r r, .unset, .unset, .unset, .unset] []) := by first | (simp [entryFrame, mkF, argsToLocals, Value.category]; done) | rfl
def Q_idx (Z : State) (r ta tb tc em de : Addr) (kd : ClassId) (K : Addr → List Addr) (S f0 : Addr → Int32) (post0 : List Addr) (h0 : Heap) (n0 : Nat) (v : Option Value) (h : Heap) (L : List Loc) : Prop := ∃ lr : Addr, v = some (.ref lr) ∧ Fr n0 L ∧ Keep h0 h [r, ta, tb, tc] ∧ own_Inv Z h em h0.size [r, ta, tb, tc] K S (own_fin post0 0 f0)
theorem rs_idx_2 (l : Launch) (Z : State) (a0 : Array Value) (hw : own_W a0 Z) (ws : List Jvm.Cond) (r ta tb tc em de : Addr) (kd : ClassId) (K : Addr → List Addr) (S f0 : Addr → Int32) (post0 : List Addr) (h0 : Heap) (n0 : Nat) (vis : List Addr) (post : List Addr) (sk0 : List Addr) (f : Addr → Int32) (mo : Int32) (ms : Int32) (s4 : Slot) (b3 : Addr) (b13 : Addr) (ch : Addr) (lc : Addr) (br21 : Addr) (kr21 : ClassId) (br9 : Addr) (kr9 : ClassId) {p e s m below meth c s₁} (Bd : BodyLoose p l own_y11 (head1 (Jvm.Cond.code own_y11 prog_45_method_5_code 5 (some (.object "java/util/List")) :: ws) (⟨5, 4, 20, 100⟩ : Room)) prog_45_method_5_code 5 (some (.object "java/util/List")) e s m #[(.ref r)] below meth c s₁) (hZ : Z.Warmed39 s.vm) (hml : c.maxLocals = 5) {Tc Lc0} (hhc : Heap) (Xc : Stand p l e (⟨5, 4, 20, 100⟩ : Room) s m #[(.ref r)] below meth c Tc Lc0 4 20) (ec : Tc.heap = hhc) (Nc : Fr n0 Lc0) (Zc : n0 ≤ hhc.size) (prec : ∀ t, Steps p.tables e below (Tc.setTop (mkF m 65 #[own_r r, own_r b3, own_r b13, own_r ch, s4] [(.ref lc)])) t → Steps p.tables e below (s₁.setTop (entryFrame m #[(.ref r)] 5)) t) (fc2_0 : Exa Z hhc b3 "java/util/ArrayList") (fc2_1 : Exa Z hhc b13 "java/util/ArrayList") (fc2_2 : Exa Z hhc ch "com/example/tributary/tributary/merge/Tree") (fc2_3 : Fld Z hhc ch "com/example/tributary/tributary/merge/Tree" "children" "Ljava/util/List;" (.ref lc)) (fc2_4 : Fld Z hhc b13 "java/util/AbstractList" "modCount" "I" (.int (ms + (1 : Int32)))) (fc2_5 : Fld Z hhc b13 "java/util/ArrayList" "elementData" "[Ljava/lang/Object;" (.ref br21)) (fc2_6 : Fld Z hhc b13 "java/util/ArrayList" "size" "I" (.int (Int32.ofNat sk0.length))) (fc2_7 : Arv Z hhc br21 kr21 (.object "java/lang/Object") (10 : Int32) (List.map Value.ref sk0) .null) (fc2_8 : Fld Z hhc b3 "java/util/AbstractList" "modCount" "I" (.int (mo + (1 : Int32)))) (fc2_9 : Fld Z hhc b3 "java/util/ArrayList" "elementData" "[Ljava/lang/Object;" (.ref br9)) (fc2_10 : Fld Z hhc b3 "java/util/ArrayList" "size" "I" (.int (Int32.ofNat (vis ++ [ch]).length))) (fc2_11 : Arv Z hhc br9 kr9 (.object "java/lang/Object") (4 : Int32) (List.map Value.ref (vis ++ [ch])) .null) (ne_b3_br9 : b3 ≠ br9) (ne_b3_b13 : b3 ≠ b13) (ne_br9_b13 : br9 ≠ b13) (ne_b3_br21 : b3 ≠ br21) (ne_br9_br21 : br9 ≠ br21) (ne_b13_br21 : b13 ≠ br21) (ne_ch_b3 : ch ≠ b3) (ne_ch_br9 : ch ≠ br9) (ne_ch_b13 : ch ≠ b13) (ne_ch_br21 : ch ≠ br21) (g_b3 : n0 ≤ b3) (sz_b3 : h0.size ≤ b3) (g_br9 : n0 ≤ br9) (sz_br9 : h0.size ≤ br9) (g_b13 : n0 ≤ b13) (sz_b13 : h0.size ≤ b13) (g_br21 : n0 ≤ br21) (sz_br21 : h0.size ≤ br21) (g_ch : n0 ≤ ch) (Kk : Keep h0 hhc [r, ta, tb, tc]) (wT : (Jvm.Cond.instantiable "com/example/tributary/tributary/merge/Tree" 18).before a0 Z = true) (SEM : Sta Z h0 "java/util/ImmutableCollections" "EMPTY" "Ljava/lang/Object;" (.ref em)) (nsD : ∀ x ∈ [r, ta, tb, tc], ∀ c : Cell, h0[x]? = some c → c.vm.isStatics = false) (hDN : ∀ x ∈ [r, ta, tb, tc], x < h0.size) (hnD : ∀ x ∈ [r, ta, tb, tc], n0 ≤ x) (Inv2 : own_Inv Z hhc em h0.size [r, ta, tb, tc] K S (own_upd f ch (Int32.ofNat vis.length))) (hch : ch ∈ [r, ta, tb, tc]) (hkk : ∀ y ∈ K ch, y ∈ [r, ta, tb, tc] ∧ y ≠ ch) (hlen : sk0.length + (K ch).length ≤ 4) (hok2 : own_ok [r, ta, tb, tc] K post (sk0 ++ (K ch).reverse)) (hfin : own_fin post0 0 f0 = own_fin (ch :: post) (Int32.ofNat vis.length) f) (hvl : vis.length + (ch :: post).length ≤ 4) (Oo : Ovr Z kr9 "java/lang/Object") (Os : Ovr Z kr21 "java/lang/Object") (hs4 : s4 = .unset ∨ ∃ x, s4 = own_i x) (o4 : Int32.ofNat vis.length + (1 : Int32) = Int32.ofNat (vis ++ [ch]).length) (hcN : ch < h0.size) (Kd2 : own_Kids Z hhc em h0.size lc (K ch)) (ih : ∀ (vis : List Addr) (stk : List Addr) (f : Addr → Int32) (mo : Int32) (ms : Int32) (s3 : Slot) (s4 : Slot) (b3 : Addr) (br9 : Addr) (kr9 : ClassId) (b13 : Addr) (br21 : Addr) (kr21 : ClassId) (Tc : State) (Lc0 : List Loc) (hhc : Heap) (Xc : Stand p l e (⟨5, 4, 20, 100⟩ : Room) s m #[(.ref r)] below meth c Tc Lc0 4 20) (ec : Tc.heap = hhc) (Nc : Fr n0 Lc0) (Zc : n0 ≤ hhc.size) (prec : ∀ t, Steps p.tables e below (Tc.setTop (mkF m 26 #[own_r r, own_r b3, own_r b13, s3, s4] [])) t → Steps p.tables e below (s₁.setTop (entryFrame m #[(.ref r)] 5)) t) (fc1_0 : Exa Z hhc b3 "java/util/ArrayList") (fc1_1 : Fld Z hhc b3 "java/util/AbstractList" "modCount" "I" (.int mo)) (fc1_2 : Fld Z hhc b3 "java/util/ArrayList" "elementData" "[Ljava/lang/Object;" (.ref br9)) (fc1_3 : Fld Z hhc b3 "java/util/ArrayList" "size" "I" (.int (Int32.ofNat vis.length))) (fc1_4 : Arv Z hhc br9 kr9 (.object "java/lang/Object") (4 : Int32) (List.map Value.ref vis) .null) (fc1_5 : Exa Z hhc b13 "java/util/ArrayList") (fc1_6 : Fld Z hhc b13 "java/util/AbstractList" "modCount" "I" (.int ms)) (fc1_7 : Fld Z hhc b13 "java/util/ArrayList" "elementData" "[Ljava/lang/Object;" (.ref br21)) (fc1_8 : Fld Z hhc b13 "java/util/ArrayList" "size" "I" (.int (Int32.ofNat stk.length))) (fc1_9 : Arv Z hhc br21 kr21 (.object "java/lang/Object") (10 : Int32) (List.map Value.ref stk) .null) (ne_b3_br9 : b3 ≠ br9) (ne_b3_b13 : b3 ≠ b13) (ne_br9_b13 : br9 ≠ b13) (ne_b3_br21 : b3 ≠ br21) (ne_br9_br21 : br9 ≠ br21) (ne_b13_br21 : b13 ≠ br21) (g_b3 : n0 ≤ b3) (sz_b3 : h0.size ≤ b3) (g_br9 : n0 ≤ br9) (sz_br9 : h0.size ≤ br9) (g_b13 : n0 ≤ b13) (sz_b13 : h0.size ≤ b13) (g_br21 : n0 ≤ br21) (sz_br21 : h0.size ≤ br21) (Kk : Keep h0 hhc [r, ta, tb, tc]) (Inv : own_Inv Z hhc em h0.size [r, ta, tb, tc] K S f) (hok : own_ok [r, ta, tb, tc] K post stk) (hfin : own_fin post0 0 f0 = own_fin post (Int32.ofNat vis.length) f) (hvl : vis.length + post.length ≤ 4) (Oo : Ovr Z kr9 "java/lang/Object") (Os : Ovr Z kr21 "java/lang/Object") (hs3 : s3 = .unset ∨ ∃ x, s3 = own_r x) (hs4 : s4 = .unset ∨ ∃ x, s4 = own_i x), ∃ s₂ o, Steps p.tables e below (s₁.setTop (entryFrame m #[(.ref r)] 5)) s₂ ∧ s₂.status = .running ∧ Ended s₂ below o ∧ ∃ v L, o = .returned v ∧ Q_idx Z r ta tb tc em de kd K S f0 post0 h0 n0 v s₂.heap L ∧ FrameEnd s o s₂ L (⟨5, 4, 20, 100⟩ : Room).cells (⟨5, 4, 20, 100⟩ : Room).slots) :
    ∃ s₂ o, Steps p.tables e below (s₁.setTop (entryFrame m #[(.ref r)] 5)) s₂ ∧ s₂.status = .running ∧ Ended s₂ below o ∧ ∃ v L, o = .returned v ∧ Q_idx Z r ta tb tc em de kd K S f0 post0 h0 n0 v s₂.heap L ∧ FrameEnd s o s₂ L (⟨5, 4, 20, 100⟩ : Room).cells (⟨5, 4, 20, 100⟩ : Room).slots := by
  have hx := Bd.exec
  have hby := Bd.bytes
  have hown : s.vm.findClass "com/example/tributary/tributary/merge/Tree" = some m.cls := findClass_of_methodNamed Bd.named
  have hnm := (name_of_methodNamed Bd.named Bd.method).1
  obtain ⟨hl0, ⟨hkx, E1, b1, k1, hb1, G1, V1⟩ | ⟨x1, hkx, E1, G1, G2⟩ | ⟨x1, y1, hkx, E1, G1, G2, hye⟩ | ⟨x1, y1, z1, b1, k1, hkx, E1, hb1, G1, V1⟩⟩ := Kd2
  · skip
    have ne_lc_b3 : lc ≠ b3 := Nat.ne_of_lt (Nat.lt_of_lt_of_le hl0 sz_b3)
    have ne_lc_br9 : lc ≠ br9 := Nat.ne_of_lt (Nat.lt_of_lt_of_le hl0 sz_br9)
    have ne_lc_b13 : lc ≠ b13 := Nat.ne_of_lt (Nat.lt_of_lt_of_le hl0 sz_b13)
    have ne_lc_br21 : lc ≠ br21 := Nat.ne_of_lt (Nat.lt_of_lt_of_le hl0 sz_br21)
    have ne_b1_b3 : b1 ≠ b3 := Nat.ne_of_lt (Nat.lt_of_lt_of_le hb1 sz_b3)
    have ne_b1_br9 : b1 ≠ br9 := Nat.ne_of_lt (Nat.lt_of_lt_of_le hb1 sz_br9)
    have ne_b1_b13 : b1 ≠ b13 := Nat.ne_of_lt (Nat.lt_of_lt_of_le hb1 sz_b13)
    have ne_b1_br21 : b1 ≠ br21 := Nat.ne_of_lt (Nat.lt_of_lt_of_le hb1 sz_br21)
    have hl4 : sk0.length + 0 ≤ 4 := by have q := hlen; rw [hkx] at q; exact q
    obtain ⟨cq54, kq54, q54a, q54b, q54c⟩ := isOf hZ ec E1
    obtain ⟨_, _, ⟨T54, L54, kk54, nn54⟩, -, X54, ⟨Lc54, hQ54, l54, y54, z54⟩, st54⟩ := Xc.interfaceBack hx (xi := own_y22) (y := own_y28) hown (mvT hZ (own_h hw 331 rfl)) (mvT hZ (own_h hw 332 rfl)) (mvT hZ (own_h hw 333 rfl)) (mvT hZ (own_h hw 334 rfl)) (mvT hZ (own_h hw 335 rfl)) (mvT hZ (own_h hw 336 rfl)) (mvT hZ (own_h hw 337 rfl)) (mvT hZ (own_h hw 338 rfl)) (by decide) (backOf (W := 0) (rm_lns l Z a0 hw [] lc b1 (0 : Int32) k1 [] hhc n0 Zc G1 V1) hZ (own_h hw 339 rfl) (own_h hw 258 rfl) (by decide) (by decide)) q54a q54b q54c (g := (mkF m 65 #[own_r r, own_r b3, own_r b13, own_r ch, s4] [(.ref lc)])) rfl (by rw [hml]; rfl) (Steps.refl _) (argsL := []) (rest := []) (lenOf pd___I rfl) rfl (by show 2 * 0 + _ ≤ _; exact Nat.le_of_eq rfl) (hb hby didx_65) (fun _ _ => ⟨rfl, ec, (by decide : 4 + 0 ≤ _), (by decide : 20 + 0 ≤ _)⟩)
    dsimp only [Pt.U, Pt.locs, Pt.cells, Pt.slots] at X54 l54 y54 z54 st54 hQ54
    subst l54 y54 z54
    obtain ⟨rfl, N54q, eq54⟩ := hQ54
    have N54 := Fr.app Nc N54q
    clear q54a q54b q54c N54q
    have pre55 : ∀ t, Steps p.tables e below (T54.setTop (mkF m 26 #[own_r r, own_r b3, own_r b13, own_r ch, .val (.int (-1 : Int32))] [])) t → Steps p.tables e below (s₁.setTop (entryFrame m #[(.ref r)] 5)) t := fun t k => prec t (by
      refine st54.trans ?_
      refine XS.iconst X54.here hx rfl (hb hby didx_70) ?_
      refine XS.isub X54.here hx rfl (hb hby didx_71) rfl ?_
      show Steps p.tables e below (T54.setTop (mkF m 72 #[own_r r, own_r b3, own_r b13, own_r ch, s4] [(.int ((0 : Int32) - (1 : Int32)))])) _
      rw [show ((0 : Int32) - (1 : Int32)) = (-1 : Int32) from by decide]
      refine XS.istore X54.here hx rfl (hb hby didx_72) rfl (l' := #[own_r r, own_r b3, own_r b13, own_r ch, .val (.int (-1 : Int32))]) (by rcases hs4 with rfl | ⟨_, rfl⟩ <;> rfl) ?_
      refine XS.iload X54.here hx rfl (hb hby didx_74) rfl ?_
      refine XS.ifYes X54.here hx rfl (pc0 := 76) (pc' := 122) rfl (hb hby didx_76) rfl (XT.i0_lt_t (by decide)) (by decide) (by decide) ?_
      refine XS.goto X54.here hx rfl (pc0 := 122) (pc' := 26) rfl (hb hby didx_122) (by decide) (by decide) ?_
      exact k)
    have hst : sk0 ++ (K ch).reverse = sk0 := by rw [hkx]; simp
    rw [hst] at hok2
    exact ih ((vis ++ [ch])) sk0 ((own_upd f ch (Int32.ofNat vis.length))) ((mo + (1 : Int32))) ((ms + (1 : Int32))) ((own_r ch)) ((.val (.int (-1 : Int32)))) b3 br9 kr9 b13 br21 kr21 T54 _ hhc X54 eq54 N54 Zc pre55 fc2_0 fc2_8 fc2_9 fc2_10 fc2_11 fc2_1 fc2_4 fc2_5 fc2_6 fc2_7 ne_b3_br9 ne_b3_b13 ne_br9_b13 ne_b3_br21 ne_br9_br21 ne_b13_br21 g_b3 sz_b3 g_br9 sz_br9 g_b13 sz_b13 g_br21 sz_br21 Kk Inv2 hok2 ((hfin.trans (by rw [← o4]; rfl))) ((by rw [List.length_append, List.length_singleton]; have q := hvl; rw [List.length_cons] at q; omega)) Oo Os ((Or.inr ⟨ch, rfl⟩)) ((Or.inr ⟨_, rfl⟩))
  · skip
    have ne_lc_b3 : lc ≠ b3 := Nat.ne_of_lt (Nat.lt_of_lt_of_le hl0 sz_b3)
    have ne_lc_br9 : lc ≠ br9 := Nat.ne_of_lt (Nat.lt_of_lt_of_le hl0 sz_br9)
    have ne_lc_b13 : lc ≠ b13 := Nat.ne_of_lt (Nat.lt_of_lt_of_le hl0 sz_b13)
    have ne_lc_br21 : lc ≠ br21 := Nat.ne_of_lt (Nat.lt_of_lt_of_le hl0 sz_br21)
    have hl4 : sk0.length + 1 ≤ 4 := by have q := hlen; rw [hkx] at q; exact q
    obtain ⟨cq56, kq56, q56a, q56b, q56c⟩ := isOf hZ ec E1
    obtain ⟨_, _, ⟨T56, L56, kk56, nn56⟩, -, X56, ⟨Lc56, hQ56, l56, y56, z56⟩, st56⟩ := Xc.interfaceBack hx (xi := own_y22) (y := own_y19) hown (mvT hZ (own_h hw 331 rfl)) (mvT hZ (own_h hw 332 rfl)) (mvT hZ (own_h hw 333 rfl)) (mvT hZ (own_h hw 380 rfl)) (mvT hZ (own_h hw 381 rfl)) (mvT hZ (own_h hw 382 rfl)) (mvT hZ (own_h hw 383 rfl)) (mvT hZ (own_h hw 384 rfl)) (by decide) (backOf (W := 0) (rm_l1s l Z a0 hw [] lc em hhc n0 Zc (own_sta_keep SEM Kk nsD) G2) hZ (own_h hw 385 rfl) (own_h hw 362 rfl) (by decide) (by decide)) q56a q56b q56c (g := (mkF m 65 #[own_r r, own_r b3, own_r b13, own_r ch, s4] [(.ref lc)])) rfl (by rw [hml]; rfl) (Steps.refl _) (argsL := []) (rest := []) (lenOf pd___I rfl) rfl (by show 2 * 0 + _ ≤ _; exact Nat.le_of_eq rfl) (hb hby didx_65) (fun _ _ => ⟨rfl, ec, (by decide : 4 + 0 ≤ _), (by decide : 20 + 0 ≤ _)⟩)
    dsimp only [Pt.U, Pt.locs, Pt.cells, Pt.slots] at X56 l56 y56 z56 st56 hQ56
    subst l56 y56 z56
    obtain ⟨rfl, N56q, eq56⟩ := hQ56
    have N56 := Fr.app Nc N56q
    clear q56a q56b q56c N56q
    have pre57 : ∀ t, Steps p.tables e below (T56.setTop (mkF m 74 #[own_r r, own_r b3, own_r b13, own_r ch, .val (.int (0 : Int32))] [])) t → Steps p.tables e below (s₁.setTop (entryFrame m #[(.ref r)] 5)) t := fun t k => prec t (by
      refine st56.trans ?_
      refine XS.iconst X56.here hx rfl (hb hby didx_70) ?_
      refine XS.isub X56.here hx rfl (hb hby didx_71) rfl ?_
      show Steps p.tables e below (T56.setTop (mkF m 72 #[own_r r, own_r b3, own_r b13, own_r ch, s4] [(.int ((1 : Int32) - (1 : Int32)))])) _
      rw [show ((1 : Int32) - (1 : Int32)) = (0 : Int32) from by decide]
      refine XS.istore X56.here hx rfl (hb hby didx_72) rfl (l' := #[own_r r, own_r b3, own_r b13, own_r ch, .val (.int (0 : Int32))]) (by rcases hs4 with rfl | ⟨_, rfl⟩ <;> rfl) ?_
      exact k)
    have hm_x1 := hkk x1 (by rw [hkx]; exact List.mem_of_getElem? (i := 0) rfl)
    have hN_x1 := hDN x1 hm_x1.1
    have g_x1 := hnD x1 hm_x1.1
    obtain ⟨Ez_x1, ⟨lz_x1, Gz_x1, Kz_x1⟩, Sz_x1, Pz_x1, vz_x1, Qz_x1⟩ := Inv2 x1 hm_x1.1
    have ne_x1_b3 : x1 ≠ b3 := Nat.ne_of_lt (Nat.lt_of_lt_of_le hN_x1 sz_b3)
    have ne_x1_br9 : x1 ≠ br9 := Nat.ne_of_lt (Nat.lt_of_lt_of_le hN_x1 sz_br9)
    have ne_x1_b13 : x1 ≠ b13 := Nat.ne_of_lt (Nat.lt_of_lt_of_le hN_x1 sz_b13)
    have ne_x1_br21 : x1 ≠ br21 := Nat.ne_of_lt (Nat.lt_of_lt_of_le hN_x1 sz_br21)
    have ne_lc_x1 : lc ≠ x1 := E1.ne Ez_x1 (by decide)
    have Kv_x1 : Keep hhc hhc [x1, b13, br21] := Keep.refl _ _
    have pre58 : own_G p e below T56 s₁ _ _ := fun t k => pre57 t (by
      refine XS.iload X56.here hx rfl (hb hby didx_74) rfl ?_
      refine XS.ifNo X56.here hx rfl (hb hby didx_76) rfl (XT.i0_lt_f (by decide)) ?_
      refine XS.aloadN X56.here hx rfl (hb hby didx_79) rfl rfl ?_
      exact k)
    obtain ⟨T59, X59, e59, st59⟩ := getF X56 hx hZ hown (host := "") (Or.inl (own_h hw 99 rfl)) Via.refl eq56 fc2_3 (g := (mkF m 80 #[own_r r, own_r b3, own_r b13, own_r ch, .val (.int (0 : Int32))] [(.ref ch)])) rfl rfl (hb hby didx_80)
    have pre60 : own_G p e below T59 s₁ _ _ := fun t k => pre58 t (by
      refine st59 _ ?_
      refine XS.iload X59.here hx rfl (hb hby didx_83) rfl ?_
      exact k)
    obtain ⟨cq61, kq61, q61a, q61b, q61c⟩ := isOf hZ e59 E1
    obtain ⟨_, _, ⟨T61, L61, kk61, nn61⟩, -, X61, ⟨Lc61, hQ61, l61, y61, z61⟩, st61⟩ := X59.interfaceBack hx (xi := own_y2) (y := own_y4) hown (mvT hZ (own_h hw 340 rfl)) (mvT hZ (own_h hw 341 rfl)) (mvT hZ (own_h hw 342 rfl)) (mvT hZ (own_h hw 386 rfl)) (mvT hZ (own_h hw 387 rfl)) (mvT hZ (own_h hw 388 rfl)) (mvT hZ (own_h hw 389 rfl)) (mvT hZ (own_h hw 384 rfl)) (by decide) (backOf (W := 0) (rm_lg0 l Z a0 hw [] lc x1 hhc n0 Zc G1) hZ (own_h hw 390 rfl) (own_h hw 362 rfl) (by decide) (by decide)) q61a q61b q61c (g := (mkF m 85 #[own_r r, own_r b3, own_r b13, own_r ch, .val (.int (0 : Int32))] [(.int (0 : Int32)), (.ref lc)])) rfl (by rw [hml]; rfl) (Steps.refl _) (argsL := [(.int (0 : Int32))]) (rest := []) (lenOf pd__I_Ljava_lang_Object_ rfl) rfl (by show 2 * 0 + _ ≤ _; exact Nat.le_of_eq rfl) (hb hby didx_85) (fun _ _ => ⟨rfl, e59, (by decide : 4 + 0 ≤ _), (by decide : 20 + 0 ≤ _)⟩)
    dsimp only [Pt.U, Pt.locs, Pt.cells, Pt.slots] at X61 l61 y61 z61 st61 hQ61
    subst l61 y61 z61
    obtain ⟨rfl, N61q, eq61⟩ := hQ61
    have N61 := Fr.app N56 N61q
    clear X56 st56 eq56 N56 pre57 pre58 X59 e59 st59 q61a q61b q61c N61q
    have pre62 : own_G p e below T61 s₁ _ _ := fun t k => pre60 t (by
      refine st61.trans ?_
      exact k)
    obtain ⟨T63, X63, e63, st63⟩ := castY X61 hx hZ hown (own_h hw 295 rfl) eq61 (Ins.of_exa Ez_x1 (own_h hw 296 rfl)) (g := (mkF m 90 #[own_r r, own_r b3, own_r b13, own_r ch, .val (.int (0 : Int32))] [(.ref x1)])) rfl rfl (hb hby didx_90)
    have pre64 : own_G p e below T63 s₁ _ _ := fun t k => pre62 t (by
      refine st63 _ ?_
      refine XS.aloadN X63.here hx rfl (hb hby didx_93) rfl rfl ?_
      exact k)
    obtain ⟨T65, h65, X65, e65, W65, st65⟩ := putF X63 hx hZ hown (host := "") (Or.inl (own_h hw 348 rfl)) Via.refl e63 Qz_x1 Ez_x1 (Or.inl (own_h hw 349 rfl)) (own_h hw 32 rfl) (ty := (.object "com/example/tributary/tributary/merge/Tree")) (by decide) rfl rfl (g := (mkF m 94 #[own_r r, own_r b3, own_r b13, own_r ch, .val (.int (0 : Int32))] [(.ref ch), (.ref x1)])) rfl rfl (hb hby didx_94)
    have F65 := Qz_x1.same W65
    have N65 := Fr.snoc X65 N61 g_x1
    have f66_0 := fc2_0.wr W65
    have f66_1 := fc2_1.wr W65
    have f66_2 := fc2_2.wr W65
    have f66_3 := fc2_3.other W65 (Or.inl hm_x1.2.symm)
    have f66_4 := fc2_4.other W65 (Or.inl ne_x1_b13.symm)
    have f66_5 := fc2_5.other W65 (Or.inl ne_x1_b13.symm)
    have f66_6 := fc2_6.other W65 (Or.inl ne_x1_b13.symm)
    have f66_7 := fc2_7.other W65 ne_x1_br21.symm
    have f66_8 := fc2_8.other W65 (Or.inl ne_x1_b3.symm)
    have f66_9 := fc2_9.other W65 (Or.inl ne_x1_b3.symm)
    have f66_10 := fc2_10.other W65 (Or.inl ne_x1_b3.symm)
    have f66_11 := fc2_11.other W65 ne_x1_br9.symm
    have f66_12 := E1.wr W65
    have f66_13 := G1.other W65 (Or.inl ne_lc_x1)
    have f66_14 := G2.other W65 (Or.inl ne_lc_x1)
    have f66_15 := Ez_x1.wr W65
    have f66_16 := Gz_x1.other W65 (Or.inr (own_sn (own_l100 hw) (own_l349 hw) (by decide)))
    have f66_17 := Sz_x1.other W65 (Or.inr (own_sn (own_l185 hw) (own_l349 hw) (by decide)))
    have f66_18 := Pz_x1.other W65 (Or.inr (own_sn (own_l330 hw) (own_l349 hw) (by decide)))
    have K67 := Kk.wr W65 (Or.inl hm_x1.1)
    have K68 := Kv_x1.wr W65 (Or.inl (List.mem_of_getElem? (i := 0) rfl))
    have Z65 : n0 ≤ h65.size := Nat.le_trans Zc (Keep.of_wr W65).1
    have pre69 : own_G p e below T65 s₁ _ _ := fun t k => pre64 t (by
      refine st65 _ ?_
      refine XS.aloadN X65.here hx rfl (hb hby didx_97) rfl rfl ?_
      refine XS.aloadN X65.here hx rfl (hb hby didx_98) rfl rfl ?_
      exact k)
    obtain ⟨T70, X70, e70, st70⟩ := getF X65 hx hZ hown (host := "") (Or.inl (own_h hw 99 rfl)) Via.refl e65 f66_3 (g := (mkF m 99 #[own_r r, own_r b3, own_r b13, own_r ch, .val (.int (0 : Int32))] [(.ref ch), (.ref b13)])) rfl rfl (hb hby didx_99)
    have pre71 : own_G p e below T70 s₁ _ _ := fun t k => pre69 t (by
      refine st70 _ ?_
      refine XS.iload X70.here hx rfl (hb hby didx_102) rfl ?_
      exact k)
    obtain ⟨cq72, kq72, q72a, q72b, q72c⟩ := isOf hZ e70 f66_12
    obtain ⟨_, _, ⟨T72, L72, kk72, nn72⟩, -, X72, ⟨Lc72, hQ72, l72, y72, z72⟩, st72⟩ := X70.interfaceBack hx (xi := own_y2) (y := own_y4) hown (mvT hZ (own_h hw 340 rfl)) (mvT hZ (own_h hw 341 rfl)) (mvT hZ (own_h hw 342 rfl)) (mvT hZ (own_h hw 386 rfl)) (mvT hZ (own_h hw 387 rfl)) (mvT hZ (own_h hw 388 rfl)) (mvT hZ (own_h hw 389 rfl)) (mvT hZ (own_h hw 384 rfl)) (by decide) (backOf (W := 1) (rm_lg0 l Z a0 hw [] lc x1 h65 n0 Z65 f66_13) hZ (own_h hw 390 rfl) (own_h hw 362 rfl) (by decide) (by decide)) q72a q72b q72c (g := (mkF m 104 #[own_r r, own_r b3, own_r b13, own_r ch, .val (.int (0 : Int32))] [(.int (0 : Int32)), (.ref lc), (.ref b13)])) rfl (by rw [hml]; rfl) (Steps.refl _) (argsL := [(.int (0 : Int32))]) (rest := [(.ref b13)]) (lenOf pd__I_Ljava_lang_Object_ rfl) rfl (by show 2 * 0 + _ ≤ _; exact Nat.le_of_eq rfl) (hb hby didx_104) (fun _ _ => ⟨rfl, e70, (by decide : 4 + 0 ≤ _), (by decide : 20 + 0 ≤ _)⟩)
    dsimp only [Pt.U, Pt.locs, Pt.cells, Pt.slots] at X72 l72 y72 z72 st72 hQ72
    subst l72 y72 z72
    obtain ⟨rfl, N72q, eq72⟩ := hQ72
    have N72 := Fr.app N65 N72q
    clear pre60 X61 st61 eq61 N61 pre62 X63 e63 st63 pre64 X65 e65 W65 st65 N65 pre69 X70 e70 st70 q72a q72b q72c N72q
    have pre73 : own_G p e below T72 s₁ _ _ := fun t k => pre71 t (by
      refine st72.trans ?_
      exact k)
    obtain ⟨T74, X74, e74, st74⟩ := castY X72 hx hZ hown (own_h hw 295 rfl) eq72 (Ins.of_exa f66_15 (own_h hw 296 rfl)) (g := (mkF m 109 #[own_r r, own_r b3, own_r b13, own_r ch, .val (.int (0 : Int32))] [(.ref x1), (.ref b13)])) rfl rfl (hb hby didx_109)
    obtain ⟨a1_x1, a2_x1, a3_x1, a4_x1⟩ := own_ad (x := x1) (xs := sk0) (by omega)
    have pre75 : own_G p e below T74 s₁ _ _ := fun t k => pre73 t (by
      refine st74 _ ?_
      exact k)
    obtain ⟨cq76, kq76, q76a, q76b, q76c⟩ := isOf hZ e74 f66_1
    obtain ⟨_, _, ⟨T76, L76, kk76, nn76⟩, -, X76, ⟨Lc76, hQ76, l76, y76, z76⟩, st76⟩ := X74.virtualBack hx (y := own_y1) (z := own_y1) hown (mvT hZ (own_h hw 306 rfl)) (mvT hZ (own_h hw 189 rfl)) (notFace_of_selects (args := #[]) (mvT hZ (own_h hw 191 rfl))) (mvT hZ (own_h hw 191 rfl)) (mvT hZ (own_h hw 190 rfl)) (by decide) (backOf (W := 0) (rm_adr l Z a0 hw [] b13 x1 br21 (ms + (1 : Int32)) (Int32.ofNat sk0.length) (Int32.ofNat (sk0 ++ [x1]).length) (10 : Int32) kr21 (List.map Value.ref sk0) h65 n0 Z65 f66_1 f66_4 f66_5 f66_6 f66_7 Os f66_15 g_b13 g_br21 ne_b13_br21 a1_x1 a2_x1 a3_x1 a4_x1) hZ (own_h hw 192 rfl) (own_h hw 3 rfl) (by decide) (by decide)) q76a q76c (g := (mkF m 112 #[own_r r, own_r b3, own_r b13, own_r ch, .val (.int (0 : Int32))] [(.ref x1), (.ref b13)])) rfl (by rw [hml]; rfl) (Steps.refl _) (argsL := [(.ref x1)]) (rest := []) (lenOf pd__Ljava_lang_Object__Z rfl) rfl (by show 2 * 0 + _ ≤ _; exact Nat.le_of_eq rfl) (hb hby didx_112) (fun _ _ => ⟨rfl, e74, (by decide : 4 + 0 ≤ _), (by decide : 20 + 0 ≤ _)⟩)
    dsimp only [Pt.U, Pt.locs, Pt.cells, Pt.slots] at X76 l76 y76 z76 st76 hQ76
    subst l76 y76 z76
    obtain ⟨rfl, N76q, Kc76, Fm76, Fe76, Fz76, Va76⟩ := hQ76
    have N76 := Fr.app N72 N76q
    have f77_0 := f66_0.keep Kc76
    have f77_1 := f66_1.keep Kc76
    have f77_2 := f66_2.keep Kc76
    have f77_3 := f66_3.keep Kc76 (own_nm2 ne_ch_b13 ne_ch_br21)
    have f77_8 := f66_8.keep Kc76 (own_nm2 ne_b3_b13 ne_b3_br21)
    have f77_9 := f66_9.keep Kc76 (own_nm2 ne_b3_b13 ne_b3_br21)
    have f77_10 := f66_10.keep Kc76 (own_nm2 ne_b3_b13 ne_b3_br21)
    have f77_11 := f66_11.keep Kc76 (own_nm2 ne_br9_b13 ne_br9_br21)
    have f77_12 := f66_12.keep Kc76
    have f77_13 := f66_13.keep Kc76 (own_nm2 ne_lc_b13 ne_lc_br21)
    have f77_14 := f66_14.keep Kc76 (own_nm2 ne_lc_b13 ne_lc_br21)
    have f77_15 := f66_15.keep Kc76
    have f77_16 := f66_16.keep Kc76 (own_nm2 ne_x1_b13 ne_x1_br21)
    have f77_17 := f66_17.keep Kc76 (own_nm2 ne_x1_b13 ne_x1_br21)
    have f77_18 := f66_18.keep Kc76 (own_nm2 ne_x1_b13 ne_x1_br21)
    have f77_19 := F65.keep Kc76 (own_nm2 ne_x1_b13 ne_x1_br21)
    have K78 := K67.trans Kc76 (by intro x hx; simp only [List.mem_cons, List.not_mem_nil, or_false] at hx; rcases hx with rfl | rfl; exact (Or.inr sz_b13); exact (Or.inr sz_br21))
    have K79 := K68.trans Kc76 (by intro x hx; simp only [List.mem_cons, List.not_mem_nil, or_false] at hx; rcases hx with rfl | rfl; exact (Or.inl (List.mem_of_getElem? (i := 1) rfl)); exact (Or.inl (List.mem_of_getElem? (i := 2) rfl)))
    have Z76 : n0 ≤ T76.heap.size := Nat.le_trans Z65 Kc76.1
    have e76 : T76.heap = T76.heap := rfl
    clear F65 f66_0 f66_1 f66_2 f66_3 f66_4 f66_5 f66_6 f66_7 f66_8 f66_9 f66_10 f66_11 f66_12 f66_13 f66_14 f66_15 f66_16 f66_17 f66_18 K67 K68 Z65 pre71 X72 st72 eq72 N72 pre73 X74 e74 st74 q76a q76b q76c N76q Kc76
    have Vs_x1 : Arv Z T76.heap br21 kr21 (.object "java/lang/Object") (10 : Int32) (List.map Value.ref (sk0 ++ [x1])) .null := by rw [own_ma]; exact Va76
    have Iv_x1 : own_Inv Z T76.heap em h0.size [r, ta, tb, tc] K S (own_upd f ch (Int32.ofNat vis.length)) := own_Inv_upd wT hDN Inv2 hm_x1.1 K79 (by intro y hy; simp only [List.mem_cons, List.not_mem_nil, or_false] at hy; rcases hy with rfl | rfl | rfl; exact Or.inl rfl; exact Or.inr sz_b13; exact Or.inr sz_br21) f77_16 Kz_x1 f77_17 f77_18 rfl f77_19 (fun y hy => rfl)
    have pre80 : own_G p e below T76 s₁ _ _ := fun t k => pre75 t (by
      refine st76.trans ?_
      refine XT.pop X76.here hx rfl (hb hby didx_115) rfl rfl ?_
      refine XT.iincV X76.here hx rfl (-1 : Int32) (hb hby didx_116) (by decide) rfl (l' := #[own_r r, own_r b3, own_r b13, own_r ch, .val (.int ((0 : Int32) + (-1 : Int32)))]) rfl ?_
      show Steps p.tables e below (T76.setTop (mkF m 119 #[own_r r, own_r b3, own_r b13, own_r ch, .val (.int ((0 : Int32) + (-1 : Int32)))] [])) _
      rw [show ((0 : Int32) + (-1 : Int32)) = (-1 : Int32) from by decide]
      refine XS.goto X76.here hx rfl (pc0 := 119) (pc' := 74) rfl (hb hby didx_119) (by decide) (by decide) ?_
      refine XS.iload X76.here hx rfl (hb hby didx_74) rfl ?_
      refine XS.ifYes X76.here hx rfl (pc0 := 76) (pc' := 122) rfl (hb hby didx_76) rfl (XT.i0_lt_t (by decide)) (by decide) (by decide) ?_
      refine XS.goto X76.here hx rfl (pc0 := 122) (pc' := 26) rfl (hb hby didx_122) (by decide) (by decide) ?_
      exact k)
    have hst : sk0 ++ (K ch).reverse = (sk0 ++ [x1]) := by rw [hkx]; simp
    rw [hst] at hok2
    exact ih ((vis ++ [ch])) ((sk0 ++ [x1])) ((own_upd f ch (Int32.ofNat vis.length))) ((mo + (1 : Int32))) (((ms + (1 : Int32)) + (1 : Int32))) ((own_r ch)) ((.val (.int (-1 : Int32)))) b3 br9 kr9 b13 br21 kr21 T76 _ T76.heap X76 e76 N76 Z76 pre80 f77_0 f77_8 f77_9 f77_10 f77_11 f77_1 Fm76 Fe76 Fz76 Vs_x1 ne_b3_br9 ne_b3_b13 ne_br9_b13 ne_b3_br21 ne_br9_br21 ne_b13_br21 g_b3 sz_b3 g_br9 sz_br9 g_b13 sz_b13 g_br21 sz_br21 K78 Iv_x1 hok2 ((hfin.trans (by rw [← o4]; rfl))) ((by rw [List.length_append, List.length_singleton]; have q := hvl; rw [List.length_cons] at q; omega)) Oo Os ((Or.inr ⟨ch, rfl⟩)) ((Or.inr ⟨_, rfl⟩))
  · skip
    have ne_lc_b3 : lc ≠ b3 := Nat.ne_of_lt (Nat.lt_of_lt_of_le hl0 sz_b3)
    have ne_lc_br9 : lc ≠ br9 := Nat.ne_of_lt (Nat.lt_of_lt_of_le hl0 sz_br9)
    have ne_lc_b13 : lc ≠ b13 := Nat.ne_of_lt (Nat.lt_of_lt_of_le hl0 sz_b13)
    have ne_lc_br21 : lc ≠ br21 := Nat.ne_of_lt (Nat.lt_of_lt_of_le hl0 sz_br21)
    have hl4 : sk0.length + 2 ≤ 4 := by have q := hlen; rw [hkx] at q; exact q
    obtain ⟨cq81, kq81, q81a, q81b, q81c⟩ := isOf hZ ec E1
    obtain ⟨_, _, ⟨T81, L81, kk81, nn81⟩, -, X81, ⟨Lc81, hQ81, l81, y81, z81⟩, st81⟩ := Xc.interfaceBack hx (xi := own_y22) (y := own_y19) hown (mvT hZ (own_h hw 331 rfl)) (mvT hZ (own_h hw 332 rfl)) (mvT hZ (own_h hw 333 rfl)) (mvT hZ (own_h hw 380 rfl)) (mvT hZ (own_h hw 381 rfl)) (mvT hZ (own_h hw 382 rfl)) (mvT hZ (own_h hw 383 rfl)) (mvT hZ (own_h hw 384 rfl)) (by decide) (backOf (W := 0) (rm_l2s l Z a0 hw [] lc y1 em hhc n0 Zc (own_sta_keep SEM Kk nsD) G2 hye) hZ (own_h hw 385 rfl) (own_h hw 362 rfl) (by decide) (by decide)) q81a q81b q81c (g := (mkF m 65 #[own_r r, own_r b3, own_r b13, own_r ch, s4] [(.ref lc)])) rfl (by rw [hml]; rfl) (Steps.refl _) (argsL := []) (rest := []) (lenOf pd___I rfl) rfl (by show 2 * 0 + _ ≤ _; exact Nat.le_of_eq rfl) (hb hby didx_65) (fun _ _ => ⟨rfl, ec, (by decide : 4 + 0 ≤ _), (by decide : 20 + 0 ≤ _)⟩)
    dsimp only [Pt.U, Pt.locs, Pt.cells, Pt.slots] at X81 l81 y81 z81 st81 hQ81
    subst l81 y81 z81
    obtain ⟨rfl, N81q, eq81⟩ := hQ81
    have N81 := Fr.app Nc N81q
    clear q81a q81b q81c N81q
    have pre82 : ∀ t, Steps p.tables e below (T81.setTop (mkF m 74 #[own_r r, own_r b3, own_r b13, own_r ch, .val (.int (1 : Int32))] [])) t → Steps p.tables e below (s₁.setTop (entryFrame m #[(.ref r)] 5)) t := fun t k => prec t (by
      refine st81.trans ?_
      refine XS.iconst X81.here hx rfl (hb hby didx_70) ?_
      refine XS.isub X81.here hx rfl (hb hby didx_71) rfl ?_
      show Steps p.tables e below (T81.setTop (mkF m 72 #[own_r r, own_r b3, own_r b13, own_r ch, s4] [(.int ((2 : Int32) - (1 : Int32)))])) _
      rw [show ((2 : Int32) - (1 : Int32)) = (1 : Int32) from by decide]
      refine XS.istore X81.here hx rfl (hb hby didx_72) rfl (l' := #[own_r r, own_r b3, own_r b13, own_r ch, .val (.int (1 : Int32))]) (by rcases hs4 with rfl | ⟨_, rfl⟩ <;> rfl) ?_
      exact k)
    have hm_y1 := hkk y1 (by rw [hkx]; exact List.mem_of_getElem? (i := 1) rfl)
    have hN_y1 := hDN y1 hm_y1.1
    have g_y1 := hnD y1 hm_y1.1
    obtain ⟨Ez_y1, ⟨lz_y1, Gz_y1, Kz_y1⟩, Sz_y1, Pz_y1, vz_y1, Qz_y1⟩ := Inv2 y1 hm_y1.1
    have ne_y1_b3 : y1 ≠ b3 := Nat.ne_of_lt (Nat.lt_of_lt_of_le hN_y1 sz_b3)
    have ne_y1_br9 : y1 ≠ br9 := Nat.ne_of_lt (Nat.lt_of_lt_of_le hN_y1 sz_br9)
    have ne_y1_b13 : y1 ≠ b13 := Nat.ne_of_lt (Nat.lt_of_lt_of_le hN_y1 sz_b13)
    have ne_y1_br21 : y1 ≠ br21 := Nat.ne_of_lt (Nat.lt_of_lt_of_le hN_y1 sz_br21)
    have ne_lc_y1 : lc ≠ y1 := E1.ne Ez_y1 (by decide)
    have Kv_y1 : Keep hhc hhc [y1, b13, br21] := Keep.refl _ _
    have pre83 : own_G p e below T81 s₁ _ _ := fun t k => pre82 t (by
      refine XS.iload X81.here hx rfl (hb hby didx_74) rfl ?_
      refine XS.ifNo X81.here hx rfl (hb hby didx_76) rfl (XT.i0_lt_f (by decide)) ?_
      refine XS.aloadN X81.here hx rfl (hb hby didx_79) rfl rfl ?_
      exact k)
    obtain ⟨T84, X84, e84, st84⟩ := getF X81 hx hZ hown (host := "") (Or.inl (own_h hw 99 rfl)) Via.refl eq81 fc2_3 (g := (mkF m 80 #[own_r r, own_r b3, own_r b13, own_r ch, .val (.int (1 : Int32))] [(.ref ch)])) rfl rfl (hb hby didx_80)
    have pre85 : own_G p e below T84 s₁ _ _ := fun t k => pre83 t (by
      refine st84 _ ?_
      refine XS.iload X84.here hx rfl (hb hby didx_83) rfl ?_
      exact k)
    obtain ⟨cq86, kq86, q86a, q86b, q86c⟩ := isOf hZ e84 E1
    obtain ⟨_, _, ⟨T86, L86, kk86, nn86⟩, -, X86, ⟨Lc86, hQ86, l86, y86, z86⟩, st86⟩ := X84.interfaceBack hx (xi := own_y2) (y := own_y4) hown (mvT hZ (own_h hw 340 rfl)) (mvT hZ (own_h hw 341 rfl)) (mvT hZ (own_h hw 342 rfl)) (mvT hZ (own_h hw 386 rfl)) (mvT hZ (own_h hw 387 rfl)) (mvT hZ (own_h hw 388 rfl)) (mvT hZ (own_h hw 389 rfl)) (mvT hZ (own_h hw 384 rfl)) (by decide) (backOf (W := 0) (rm_lg1 l Z a0 hw [] lc y1 em hhc n0 Zc (own_sta_keep SEM Kk nsD) G2 hye) hZ (own_h hw 390 rfl) (own_h hw 362 rfl) (by decide) (by decide)) q86a q86b q86c (g := (mkF m 85 #[own_r r, own_r b3, own_r b13, own_r ch, .val (.int (1 : Int32))] [(.int (1 : Int32)), (.ref lc)])) rfl (by rw [hml]; rfl) (Steps.refl _) (argsL := [(.int (1 : Int32))]) (rest := []) (lenOf pd__I_Ljava_lang_Object_ rfl) rfl (by show 2 * 0 + _ ≤ _; exact Nat.le_of_eq rfl) (hb hby didx_85) (fun _ _ => ⟨rfl, e84, (by decide : 4 + 0 ≤ _), (by decide : 20 + 0 ≤ _)⟩)
    dsimp only [Pt.U, Pt.locs, Pt.cells, Pt.slots] at X86 l86 y86 z86 st86 hQ86
    subst l86 y86 z86
    obtain ⟨rfl, N86q, eq86⟩ := hQ86
    have N86 := Fr.app N81 N86q
    clear X81 st81 eq81 N81 pre82 pre83 X84 e84 st84 q86a q86b q86c N86q
    have pre87 : own_G p e below T86 s₁ _ _ := fun t k => pre85 t (by
      refine st86.trans ?_
      exact k)
    obtain ⟨T88, X88, e88, st88⟩ := castY X86 hx hZ hown (own_h hw 295 rfl) eq86 (Ins.of_exa Ez_y1 (own_h hw 296 rfl)) (g := (mkF m 90 #[own_r r, own_r b3, own_r b13, own_r ch, .val (.int (1 : Int32))] [(.ref y1)])) rfl rfl (hb hby didx_90)
    have pre89 : own_G p e below T88 s₁ _ _ := fun t k => pre87 t (by
      refine st88 _ ?_
      refine XS.aloadN X88.here hx rfl (hb hby didx_93) rfl rfl ?_
      exact k)
    obtain ⟨T90, h90, X90, e90, W90, st90⟩ := putF X88 hx hZ hown (host := "") (Or.inl (own_h hw 348 rfl)) Via.refl e88 Qz_y1 Ez_y1 (Or.inl (own_h hw 349 rfl)) (own_h hw 32 rfl) (ty := (.object "com/example/tributary/tributary/merge/Tree")) (by decide) rfl rfl (g := (mkF m 94 #[own_r r, own_r b3, own_r b13, own_r ch, .val (.int (1 : Int32))] [(.ref ch), (.ref y1)])) rfl rfl (hb hby didx_94)
    have F90 := Qz_y1.same W90
    have N90 := Fr.snoc X90 N86 g_y1
    have f91_0 := fc2_0.wr W90
    have f91_1 := fc2_1.wr W90
    have f91_2 := fc2_2.wr W90
    have f91_3 := fc2_3.other W90 (Or.inl hm_y1.2.symm)
    have f91_4 := fc2_4.other W90 (Or.inl ne_y1_b13.symm)
    have f91_5 := fc2_5.other W90 (Or.inl ne_y1_b13.symm)
    have f91_6 := fc2_6.other W90 (Or.inl ne_y1_b13.symm)
    have f91_7 := fc2_7.other W90 ne_y1_br21.symm
    have f91_8 := fc2_8.other W90 (Or.inl ne_y1_b3.symm)
    have f91_9 := fc2_9.other W90 (Or.inl ne_y1_b3.symm)
    have f91_10 := fc2_10.other W90 (Or.inl ne_y1_b3.symm)
    have f91_11 := fc2_11.other W90 ne_y1_br9.symm
    have f91_12 := E1.wr W90
    have f91_13 := G1.other W90 (Or.inl ne_lc_y1)
    have f91_14 := G2.other W90 (Or.inl ne_lc_y1)
    have f91_15 := Ez_y1.wr W90
    have f91_16 := Gz_y1.other W90 (Or.inr (own_sn (own_l100 hw) (own_l349 hw) (by decide)))
    have f91_17 := Sz_y1.other W90 (Or.inr (own_sn (own_l185 hw) (own_l349 hw) (by decide)))
    have f91_18 := Pz_y1.other W90 (Or.inr (own_sn (own_l330 hw) (own_l349 hw) (by decide)))
    have K92 := Kk.wr W90 (Or.inl hm_y1.1)
    have K93 := Kv_y1.wr W90 (Or.inl (List.mem_of_getElem? (i := 0) rfl))
    have Z90 : n0 ≤ h90.size := Nat.le_trans Zc (Keep.of_wr W90).1
    have pre94 : own_G p e below T90 s₁ _ _ := fun t k => pre89 t (by
      refine st90 _ ?_
      refine XS.aloadN X90.here hx rfl (hb hby didx_97) rfl rfl ?_
      refine XS.aloadN X90.here hx rfl (hb hby didx_98) rfl rfl ?_
      exact k)
    obtain ⟨T95, X95, e95, st95⟩ := getF X90 hx hZ hown (host := "") (Or.inl (own_h hw 99 rfl)) Via.refl e90 f91_3 (g := (mkF m 99 #[own_r r, own_r b3, own_r b13, own_r ch, .val (.int (1 : Int32))] [(.ref ch), (.ref b13)])) rfl rfl (hb hby didx_99)
    have pre96 : own_G p e below T95 s₁ _ _ := fun t k => pre94 t (by
      refine st95 _ ?_
      refine XS.iload X95.here hx rfl (hb hby didx_102) rfl ?_
      exact k)
    obtain ⟨cq97, kq97, q97a, q97b, q97c⟩ := isOf hZ e95 f91_12
    obtain ⟨_, _, ⟨T97, L97, kk97, nn97⟩, -, X97, ⟨Lc97, hQ97, l97, y97, z97⟩, st97⟩ := X95.interfaceBack hx (xi := own_y2) (y := own_y4) hown (mvT hZ (own_h hw 340 rfl)) (mvT hZ (own_h hw 341 rfl)) (mvT hZ (own_h hw 342 rfl)) (mvT hZ (own_h hw 386 rfl)) (mvT hZ (own_h hw 387 rfl)) (mvT hZ (own_h hw 388 rfl)) (mvT hZ (own_h hw 389 rfl)) (mvT hZ (own_h hw 384 rfl)) (by decide) (backOf (W := 1) (rm_lg1 l Z a0 hw [] lc y1 em h90 n0 Z90 (own_sta_keep SEM K92 nsD) f91_14 hye) hZ (own_h hw 390 rfl) (own_h hw 362 rfl) (by decide) (by decide)) q97a q97b q97c (g := (mkF m 104 #[own_r r, own_r b3, own_r b13, own_r ch, .val (.int (1 : Int32))] [(.int (1 : Int32)), (.ref lc), (.ref b13)])) rfl (by rw [hml]; rfl) (Steps.refl _) (argsL := [(.int (1 : Int32))]) (rest := [(.ref b13)]) (lenOf pd__I_Ljava_lang_Object_ rfl) rfl (by show 2 * 0 + _ ≤ _; exact Nat.le_of_eq rfl) (hb hby didx_104) (fun _ _ => ⟨rfl, e95, (by decide : 4 + 0 ≤ _), (by decide : 20 + 0 ≤ _)⟩)
    dsimp only [Pt.U, Pt.locs, Pt.cells, Pt.slots] at X97 l97 y97 z97 st97 hQ97
    subst l97 y97 z97
    obtain ⟨rfl, N97q, eq97⟩ := hQ97
    have N97 := Fr.app N90 N97q
    clear pre85 X86 st86 eq86 N86 pre87 X88 e88 st88 pre89 X90 e90 W90 st90 N90 pre94 X95 e95 st95 q97a q97b q97c N97q
    have pre98 : own_G p e below T97 s₁ _ _ := fun t k => pre96 t (by
      refine st97.trans ?_
      exact k)
    obtain ⟨T99, X99, e99, st99⟩ := castY X97 hx hZ hown (own_h hw 295 rfl) eq97 (Ins.of_exa f91_15 (own_h hw 296 rfl)) (g := (mkF m 109 #[own_r r, own_r b3, own_r b13, own_r ch, .val (.int (1 : Int32))] [(.ref y1), (.ref b13)])) rfl rfl (hb hby didx_109)
    obtain ⟨a1_y1, a2_y1, a3_y1, a4_y1⟩ := own_ad (x := y1) (xs := sk0) (by omega)
    have pre100 : own_G p e below T99 s₁ _ _ := fun t k => pre98 t (by
      refine st99 _ ?_
      exact k)
    obtain ⟨cq101, kq101, q101a, q101b, q101c⟩ := isOf hZ e99 f91_1
    obtain ⟨_, _, ⟨T101, L101, kk101, nn101⟩, -, X101, ⟨Lc101, hQ101, l101, y101, z101⟩, st101⟩ := X99.virtualBack hx (y := own_y1) (z := own_y1) hown (mvT hZ (own_h hw 306 rfl)) (mvT hZ (own_h hw 189 rfl)) (notFace_of_selects (args := #[]) (mvT hZ (own_h hw 191 rfl))) (mvT hZ (own_h hw 191 rfl)) (mvT hZ (own_h hw 190 rfl)) (by decide) (backOf (W := 0) (rm_adr l Z a0 hw [] b13 y1 br21 (ms + (1 : Int32)) (Int32.ofNat sk0.length) (Int32.ofNat (sk0 ++ [y1]).length) (10 : Int32) kr21 (List.map Value.ref sk0) h90 n0 Z90 f91_1 f91_4 f91_5 f91_6 f91_7 Os f91_15 g_b13 g_br21 ne_b13_br21 a1_y1 a2_y1 a3_y1 a4_y1) hZ (own_h hw 192 rfl) (own_h hw 3 rfl) (by decide) (by decide)) q101a q101c (g := (mkF m 112 #[own_r r, own_r b3, own_r b13, own_r ch, .val (.int (1 : Int32))] [(.ref y1), (.ref b13)])) rfl (by rw [hml]; rfl) (Steps.refl _) (argsL := [(.ref y1)]) (rest := []) (lenOf pd__Ljava_lang_Object__Z rfl) rfl (by show 2 * 0 + _ ≤ _; exact Nat.le_of_eq rfl) (hb hby didx_112) (fun _ _ => ⟨rfl, e99, (by decide : 4 + 0 ≤ _), (by decide : 20 + 0 ≤ _)⟩)
    dsimp only [Pt.U, Pt.locs, Pt.cells, Pt.slots] at X101 l101 y101 z101 st101 hQ101
    subst l101 y101 z101
    obtain ⟨rfl, N101q, Kc101, Fm101, Fe101, Fz101, Va101⟩ := hQ101
    have N101 := Fr.app N97 N101q
    have f102_0 := f91_0.keep Kc101
    have f102_1 := f91_1.keep Kc101
    have f102_2 := f91_2.keep Kc101
    have f102_3 := f91_3.keep Kc101 (own_nm2 ne_ch_b13 ne_ch_br21)
    have f102_8 := f91_8.keep Kc101 (own_nm2 ne_b3_b13 ne_b3_br21)
    have f102_9 := f91_9.keep Kc101 (own_nm2 ne_b3_b13 ne_b3_br21)
    have f102_10 := f91_10.keep Kc101 (own_nm2 ne_b3_b13 ne_b3_br21)
    have f102_11 := f91_11.keep Kc101 (own_nm2 ne_br9_b13 ne_br9_br21)
    have f102_12 := f91_12.keep Kc101
    have f102_13 := f91_13.keep Kc101 (own_nm2 ne_lc_b13 ne_lc_br21)
    have f102_14 := f91_14.keep Kc101 (own_nm2 ne_lc_b13 ne_lc_br21)
    have f102_15 := f91_15.keep Kc101
    have f102_16 := f91_16.keep Kc101 (own_nm2 ne_y1_b13 ne_y1_br21)
    have f102_17 := f91_17.keep Kc101 (own_nm2 ne_y1_b13 ne_y1_br21)
    have f102_18 := f91_18.keep Kc101 (own_nm2 ne_y1_b13 ne_y1_br21)
    have f102_19 := F90.keep Kc101 (own_nm2 ne_y1_b13 ne_y1_br21)
    have K103 := K92.trans Kc101 (by intro x hx; simp only [List.mem_cons, List.not_mem_nil, or_false] at hx; rcases hx with rfl | rfl; exact (Or.inr sz_b13); exact (Or.inr sz_br21))
    have K104 := K93.trans Kc101 (by intro x hx; simp only [List.mem_cons, List.not_mem_nil, or_false] at hx; rcases hx with rfl | rfl; exact (Or.inl (List.mem_of_getElem? (i := 1) rfl)); exact (Or.inl (List.mem_of_getElem? (i := 2) rfl)))
    have Z101 : n0 ≤ T101.heap.size := Nat.le_trans Z90 Kc101.1
    have e101 : T101.heap = T101.heap := rfl
    clear F90 f91_0 f91_1 f91_2 f91_3 f91_4 f91_5 f91_6 f91_7 f91_8 f91_9 f91_10 f91_11 f91_12 f91_13 f91_14 f91_15 f91_16 f91_17 f91_18 K92 K93 Z90 pre96 X97 st97 eq97 N97 pre98 X99 e99 st99 q101a q101b q101c N101q Kc101
    have Vs_y1 : Arv Z T101.heap br21 kr21 (.object "java/lang/Object") (10 : Int32) (List.map Value.ref (sk0 ++ [y1])) .null := by rw [own_ma]; exact Va101
    have Iv_y1 : own_Inv Z T101.heap em h0.size [r, ta, tb, tc] K S (own_upd f ch (Int32.ofNat vis.length)) := own_Inv_upd wT hDN Inv2 hm_y1.1 K104 (by intro y hy; simp only [List.mem_cons, List.not_mem_nil, or_false] at hy; rcases hy with rfl | rfl | rfl; exact Or.inl rfl; exact Or.inr sz_b13; exact Or.inr sz_br21) f102_16 Kz_y1 f102_17 f102_18 rfl f102_19 (fun y hy => rfl)
    have pre105 : own_G p e below T101 s₁ _ _ := fun t k => pre100 t (by
      refine st101.trans ?_
      refine XT.pop X101.here hx rfl (hb hby didx_115) rfl rfl ?_
      refine XT.iincV X101.here hx rfl (-1 : Int32) (hb hby didx_116) (by decide) rfl (l' := #[own_r r, own_r b3, own_r b13, own_r ch, .val (.int ((1 : Int32) + (-1 : Int32)))]) rfl ?_
      show Steps p.tables e below (T101.setTop (mkF m 119 #[own_r r, own_r b3, own_r b13, own_r ch, .val (.int ((1 : Int32) + (-1 : Int32)))] [])) _
      rw [show ((1 : Int32) + (-1 : Int32)) = (0 : Int32) from by decide]
      refine XS.goto X101.here hx rfl (pc0 := 119) (pc' := 74) rfl (hb hby didx_119) (by decide) (by decide) ?_
      exact k)
    have hm_x1 := hkk x1 (by rw [hkx]; exact List.mem_of_getElem? (i := 0) rfl)
    have hN_x1 := hDN x1 hm_x1.1
    have g_x1 := hnD x1 hm_x1.1
    obtain ⟨Ez_x1, ⟨lz_x1, Gz_x1, Kz_x1⟩, Sz_x1, Pz_x1, vz_x1, Qz_x1⟩ := Iv_y1 x1 hm_x1.1
    have ne_x1_b3 : x1 ≠ b3 := Nat.ne_of_lt (Nat.lt_of_lt_of_le hN_x1 sz_b3)
    have ne_x1_br9 : x1 ≠ br9 := Nat.ne_of_lt (Nat.lt_of_lt_of_le hN_x1 sz_br9)
    have ne_x1_b13 : x1 ≠ b13 := Nat.ne_of_lt (Nat.lt_of_lt_of_le hN_x1 sz_b13)
    have ne_x1_br21 : x1 ≠ br21 := Nat.ne_of_lt (Nat.lt_of_lt_of_le hN_x1 sz_br21)
    have ne_lc_x1 : lc ≠ x1 := f102_12.ne Ez_x1 (by decide)
    have Kv_x1 : Keep T101.heap T101.heap [x1, b13, br21] := Keep.refl _ _
    have pre106 : own_G p e below T101 s₁ _ _ := fun t k => pre105 t (by
      refine XS.iload X101.here hx rfl (hb hby didx_74) rfl ?_
      refine XS.ifNo X101.here hx rfl (hb hby didx_76) rfl (XT.i0_lt_f (by decide)) ?_
      refine XS.aloadN X101.here hx rfl (hb hby didx_79) rfl rfl ?_
      exact k)
    obtain ⟨T107, X107, e107, st107⟩ := getF X101 hx hZ hown (host := "") (Or.inl (own_h hw 99 rfl)) Via.refl e101 f102_3 (g := (mkF m 80 #[own_r r, own_r b3, own_r b13, own_r ch, .val (.int (0 : Int32))] [(.ref ch)])) rfl rfl (hb hby didx_80)
    have pre108 : own_G p e below T107 s₁ _ _ := fun t k => pre106 t (by
      refine st107 _ ?_
      refine XS.iload X107.here hx rfl (hb hby didx_83) rfl ?_
      exact k)
    obtain ⟨cq109, kq109, q109a, q109b, q109c⟩ := isOf hZ e107 f102_12
    obtain ⟨_, _, ⟨T109, L109, kk109, nn109⟩, -, X109, ⟨Lc109, hQ109, l109, y109, z109⟩, st109⟩ := X107.interfaceBack hx (xi := own_y2) (y := own_y4) hown (mvT hZ (own_h hw 340 rfl)) (mvT hZ (own_h hw 341 rfl)) (mvT hZ (own_h hw 342 rfl)) (mvT hZ (own_h hw 386 rfl)) (mvT hZ (own_h hw 387 rfl)) (mvT hZ (own_h hw 388 rfl)) (mvT hZ (own_h hw 389 rfl)) (mvT hZ (own_h hw 384 rfl)) (by decide) (backOf (W := 0) (rm_lg0 l Z a0 hw [] lc x1 T101.heap n0 Z101 f102_13) hZ (own_h hw 390 rfl) (own_h hw 362 rfl) (by decide) (by decide)) q109a q109b q109c (g := (mkF m 85 #[own_r r, own_r b3, own_r b13, own_r ch, .val (.int (0 : Int32))] [(.int (0 : Int32)), (.ref lc)])) rfl (by rw [hml]; rfl) (Steps.refl _) (argsL := [(.int (0 : Int32))]) (rest := []) (lenOf pd__I_Ljava_lang_Object_ rfl) rfl (by show 2 * 0 + _ ≤ _; exact Nat.le_of_eq rfl) (hb hby didx_85) (fun _ _ => ⟨rfl, e107, (by decide : 4 + 0 ≤ _), (by decide : 20 + 0 ≤ _)⟩)
    dsimp only [Pt.U, Pt.locs, Pt.cells, Pt.slots] at X109 l109 y109 z109 st109 hQ109
    subst l109 y109 z109
    obtain ⟨rfl, N109q, eq109⟩ := hQ109
    have N109 := Fr.app N101 N109q
    clear pre100 X101 st101 N101 f102_15 f102_16 f102_17 f102_18 f102_19 K104 e101 pre105 pre106 X107 e107 st107 q109a q109b q109c N109q
    have pre110 : own_G p e below T109 s₁ _ _ := fun t k => pre108 t (by
      refine st109.trans ?_
      exact k)
    obtain ⟨T111, X111, e111, st111⟩ := castY X109 hx hZ hown (own_h hw 295 rfl) eq109 (Ins.of_exa Ez_x1 (own_h hw 296 rfl)) (g := (mkF m 90 #[own_r r, own_r b3, own_r b13, own_r ch, .val (.int (0 : Int32))] [(.ref x1)])) rfl rfl (hb hby didx_90)
    have pre112 : own_G p e below T111 s₁ _ _ := fun t k => pre110 t (by
      refine st111 _ ?_
      refine XS.aloadN X111.here hx rfl (hb hby didx_93) rfl rfl ?_
      exact k)
    obtain ⟨T113, h113, X113, e113, W113, st113⟩ := putF X111 hx hZ hown (host := "") (Or.inl (own_h hw 348 rfl)) Via.refl e111 Qz_x1 Ez_x1 (Or.inl (own_h hw 349 rfl)) (own_h hw 32 rfl) (ty := (.object "com/example/tributary/tributary/merge/Tree")) (by decide) rfl rfl (g := (mkF m 94 #[own_r r, own_r b3, own_r b13, own_r ch, .val (.int (0 : Int32))] [(.ref ch), (.ref x1)])) rfl rfl (hb hby didx_94)
    have F113 := Qz_x1.same W113
    have N113 := Fr.snoc X113 N109 g_x1
    have f114_0 := f102_0.wr W113
    have f114_1 := f102_1.wr W113
    have f114_2 := f102_2.wr W113
    have f114_3 := f102_3.other W113 (Or.inl hm_x1.2.symm)
    have f114_4 := f102_8.other W113 (Or.inl ne_x1_b3.symm)
    have f114_5 := f102_9.other W113 (Or.inl ne_x1_b3.symm)
    have f114_6 := f102_10.other W113 (Or.inl ne_x1_b3.symm)
    have f114_7 := f102_11.other W113 ne_x1_br9.symm
    have f114_8 := f102_12.wr W113
    have f114_9 := f102_13.other W113 (Or.inl ne_lc_x1)
    have f114_10 := f102_14.other W113 (Or.inl ne_lc_x1)
    have f114_11 := Fm101.other W113 (Or.inl ne_x1_b13.symm)
    have f114_12 := Fe101.other W113 (Or.inl ne_x1_b13.symm)
    have f114_13 := Fz101.other W113 (Or.inl ne_x1_b13.symm)
    have f114_14 := Vs_y1.other W113 ne_x1_br21.symm
    have f114_15 := Ez_x1.wr W113
    have f114_16 := Gz_x1.other W113 (Or.inr (own_sn (own_l100 hw) (own_l349 hw) (by decide)))
    have f114_17 := Sz_x1.other W113 (Or.inr (own_sn (own_l185 hw) (own_l349 hw) (by decide)))
    have f114_18 := Pz_x1.other W113 (Or.inr (own_sn (own_l330 hw) (own_l349 hw) (by decide)))
    have K115 := K103.wr W113 (Or.inl hm_x1.1)
    have K116 := Kv_x1.wr W113 (Or.inl (List.mem_of_getElem? (i := 0) rfl))
    have Z113 : n0 ≤ h113.size := Nat.le_trans Z101 (Keep.of_wr W113).1
    have pre117 : own_G p e below T113 s₁ _ _ := fun t k => pre112 t (by
      refine st113 _ ?_
      refine XS.aloadN X113.here hx rfl (hb hby didx_97) rfl rfl ?_
      refine XS.aloadN X113.here hx rfl (hb hby didx_98) rfl rfl ?_
      exact k)
    obtain ⟨T118, X118, e118, st118⟩ := getF X113 hx hZ hown (host := "") (Or.inl (own_h hw 99 rfl)) Via.refl e113 f114_3 (g := (mkF m 99 #[own_r r, own_r b3, own_r b13, own_r ch, .val (.int (0 : Int32))] [(.ref ch), (.ref b13)])) rfl rfl (hb hby didx_99)
    have pre119 : own_G p e below T118 s₁ _ _ := fun t k => pre117 t (by
      refine st118 _ ?_
      refine XS.iload X118.here hx rfl (hb hby didx_102) rfl ?_
      exact k)
    obtain ⟨cq120, kq120, q120a, q120b, q120c⟩ := isOf hZ e118 f114_8
    obtain ⟨_, _, ⟨T120, L120, kk120, nn120⟩, -, X120, ⟨Lc120, hQ120, l120, y120, z120⟩, st120⟩ := X118.interfaceBack hx (xi := own_y2) (y := own_y4) hown (mvT hZ (own_h hw 340 rfl)) (mvT hZ (own_h hw 341 rfl)) (mvT hZ (own_h hw 342 rfl)) (mvT hZ (own_h hw 386 rfl)) (mvT hZ (own_h hw 387 rfl)) (mvT hZ (own_h hw 388 rfl)) (mvT hZ (own_h hw 389 rfl)) (mvT hZ (own_h hw 384 rfl)) (by decide) (backOf (W := 1) (rm_lg0 l Z a0 hw [] lc x1 h113 n0 Z113 f114_9) hZ (own_h hw 390 rfl) (own_h hw 362 rfl) (by decide) (by decide)) q120a q120b q120c (g := (mkF m 104 #[own_r r, own_r b3, own_r b13, own_r ch, .val (.int (0 : Int32))] [(.int (0 : Int32)), (.ref lc), (.ref b13)])) rfl (by rw [hml]; rfl) (Steps.refl _) (argsL := [(.int (0 : Int32))]) (rest := [(.ref b13)]) (lenOf pd__I_Ljava_lang_Object_ rfl) rfl (by show 2 * 0 + _ ≤ _; exact Nat.le_of_eq rfl) (hb hby didx_104) (fun _ _ => ⟨rfl, e118, (by decide : 4 + 0 ≤ _), (by decide : 20 + 0 ≤ _)⟩)
    dsimp only [Pt.U, Pt.locs, Pt.cells, Pt.slots] at X120 l120 y120 z120 st120 hQ120
    subst l120 y120 z120
    obtain ⟨rfl, N120q, eq120⟩ := hQ120
    have N120 := Fr.app N113 N120q
    clear f102_0 f102_1 f102_2 f102_3 f102_8 f102_9 f102_10 f102_11 f102_12 f102_13 f102_14 K103 Z101 pre108 X109 st109 eq109 N109 pre110 X111 e111 st111 pre112 X113 e113 W113 st113 N113 pre117 X118 e118 st118 q120a q120b q120c N120q
    have pre121 : own_G p e below T120 s₁ _ _ := fun t k => pre119 t (by
      refine st120.trans ?_
      exact k)
    obtain ⟨T122, X122, e122, st122⟩ := castY X120 hx hZ hown (own_h hw 295 rfl) eq120 (Ins.of_exa f114_15 (own_h hw 296 rfl)) (g := (mkF m 109 #[own_r r, own_r b3, own_r b13, own_r ch, .val (.int (0 : Int32))] [(.ref x1), (.ref b13)])) rfl rfl (hb hby didx_109)
    obtain ⟨a1_x1, a2_x1, a3_x1, a4_x1⟩ := own_ad (x := x1) (xs := (sk0 ++ [y1])) (by simp only [List.length_append, List.length_singleton]; omega)
    have pre123 : own_G p e below T122 s₁ _ _ := fun t k => pre121 t (by
      refine st122 _ ?_
      exact k)
    obtain ⟨cq124, kq124, q124a, q124b, q124c⟩ := isOf hZ e122 f114_1
    obtain ⟨_, _, ⟨T124, L124, kk124, nn124⟩, -, X124, ⟨Lc124, hQ124, l124, y124, z124⟩, st124⟩ := X122.virtualBack hx (y := own_y1) (z := own_y1) hown (mvT hZ (own_h hw 306 rfl)) (mvT hZ (own_h hw 189 rfl)) (notFace_of_selects (args := #[]) (mvT hZ (own_h hw 191 rfl))) (mvT hZ (own_h hw 191 rfl)) (mvT hZ (own_h hw 190 rfl)) (by decide) (backOf (W := 0) (rm_adr l Z a0 hw [] b13 x1 br21 ((ms + (1 : Int32)) + (1 : Int32)) (Int32.ofNat (sk0 ++ [y1]).length) (Int32.ofNat ((sk0 ++ [y1]) ++ [x1]).length) (10 : Int32) kr21 (List.map Value.ref (sk0 ++ [y1])) h113 n0 Z113 f114_1 f114_11 f114_12 f114_13 f114_14 Os f114_15 g_b13 g_br21 ne_b13_br21 a1_x1 a2_x1 a3_x1 a4_x1) hZ (own_h hw 192 rfl) (own_h hw 3 rfl) (by decide) (by decide)) q124a q124c (g := (mkF m 112 #[own_r r, own_r b3, own_r b13, own_r ch, .val (.int (0 : Int32))] [(.ref x1), (.ref b13)])) rfl (by rw [hml]; rfl) (Steps.refl _) (argsL := [(.ref x1)]) (rest := []) (lenOf pd__Ljava_lang_Object__Z rfl) rfl (by show 2 * 0 + _ ≤ _; exact Nat.le_of_eq rfl) (hb hby didx_112) (fun _ _ => ⟨rfl, e122, (by decide : 4 + 0 ≤ _), (by decide : 20 + 0 ≤ _)⟩)
    dsimp only [Pt.U, Pt.locs, Pt.cells, Pt.slots] at X124 l124 y124 z124 st124 hQ124
    subst l124 y124 z124
    obtain ⟨rfl, N124q, Kc124, Fm124, Fe124, Fz124, Va124⟩ := hQ124
    have N124 := Fr.app N120 N124q
    have f125_0 := f114_0.keep Kc124
    have f125_1 := f114_1.keep Kc124
    have f125_2 := f114_2.keep Kc124
    have f125_3 := f114_3.keep Kc124 (own_nm2 ne_ch_b13 ne_ch_br21)
    have f125_4 := f114_4.keep Kc124 (own_nm2 ne_b3_b13 ne_b3_br21)
    have f125_5 := f114_5.keep Kc124 (own_nm2 ne_b3_b13 ne_b3_br21)
    have f125_6 := f114_6.keep Kc124 (own_nm2 ne_b3_b13 ne_b3_br21)
    have f125_7 := f114_7.keep Kc124 (own_nm2 ne_br9_b13 ne_br9_br21)
    have f125_8 := f114_8.keep Kc124
    have f125_9 := f114_9.keep Kc124 (own_nm2 ne_lc_b13 ne_lc_br21)
    have f125_10 := f114_10.keep Kc124 (own_nm2 ne_lc_b13 ne_lc_br21)
    have f125_15 := f114_15.keep Kc124
    have f125_16 := f114_16.keep Kc124 (own_nm2 ne_x1_b13 ne_x1_br21)
    have f125_17 := f114_17.keep Kc124 (own_nm2 ne_x1_b13 ne_x1_br21)
    have f125_18 := f114_18.keep Kc124 (own_nm2 ne_x1_b13 ne_x1_br21)
    have f125_19 := F113.keep Kc124 (own_nm2 ne_x1_b13 ne_x1_br21)
    have K126 := K115.trans Kc124 (by intro x hx; simp only [List.mem_cons, List.not_mem_nil, or_false] at hx; rcases hx with rfl | rfl; exact (Or.inr sz_b13); exact (Or.inr sz_br21))
    have K127 := K116.trans Kc124 (by intro x hx; simp only [List.mem_cons, List.not_mem_nil, or_false] at hx; rcases hx with rfl | rfl; exact (Or.inl (List.mem_of_getElem? (i := 1) rfl)); exact (Or.inl (List.mem_of_getElem? (i := 2) rfl)))
    have Z124 : n0 ≤ T124.heap.size := Nat.le_trans Z113 Kc124.1
    have e124 : T124.heap = T124.heap := rfl
    clear F113 f114_0 f114_1 f114_2 f114_3 f114_4 f114_5 f114_6 f114_7 f114_8 f114_9 f114_10 f114_11 f114_12 f114_13 f114_14 f114_15 f114_16 f114_17 f114_18 K115 K116 Z113 pre119 X120 st120 eq120 N120 pre121 X122 e122 st122 q124a q124b q124c N124q Kc124
    have Vs_x1 : Arv Z T124.heap br21 kr21 (.object "java/lang/Object") (10 : Int32) (List.map Value.ref ((sk0 ++ [y1]) ++ [x1])) .null := by rw [own_ma]; exact Va124
    have Iv_x1 : own_Inv Z T124.heap em h0.size [r, ta, tb, tc] K S (own_upd f ch (Int32.ofNat vis.length)) := own_Inv_upd wT hDN Iv_y1 hm_x1.1 K127 (by intro y hy; simp only [List.mem_cons, List.not_mem_nil, or_false] at hy; rcases hy with rfl | rfl | rfl; exact Or.inl rfl; exact Or.inr sz_b13; exact Or.inr sz_br21) f125_16 Kz_x1 f125_17 f125_18 rfl f125_19 (fun y hy => rfl)
    have pre128 : own_G p e below T124 s₁ _ _ := fun t k => pre123 t (by
      refine st124.trans ?_
      refine XT.pop X124.here hx rfl (hb hby didx_115) rfl rfl ?_
      refine XT.iincV X124.here hx rfl (-1 : Int32) (hb hby didx_116) (by decide) rfl (l' := #[own_r r, own_r b3, own_r b13, own_r ch, .val (.int ((0 : Int32) + (-1 : Int32)))]) rfl ?_
      show Steps p.tables e below (T124.setTop (mkF m 119 #[own_r r, own_r b3, own_r b13, own_r ch, .val (.int ((0 : Int32) + (-1 : Int32)))] [])) _
      rw [show ((0 : Int32) + (-1 : Int32)) = (-1 : Int32) from by decide]
      refine XS.goto X124.here hx rfl (pc0 := 119) (pc' := 74) rfl (hb hby didx_119) (by decide) (by decide) ?_
      refine XS.iload X124.here hx rfl (hb hby didx_74) rfl ?_
      refine XS.ifYes X124.here hx rfl (pc0 := 76) (pc' := 122) rfl (hb hby didx_76) rfl (XT.i0_lt_t (by decide)) (by decide) (by decide) ?_
      refine XS.goto X124.here hx rfl (pc0 := 122) (pc' := 26) rfl (hb hby didx_122) (by decide) (by decide) ?_
      exact k)
    have hst : sk0 ++ (K ch).reverse = ((sk0 ++ [y1]) ++ [x1]) := by rw [hkx]; simp
    rw [hst] at hok2
    exact ih ((vis ++ [ch])) (((sk0 ++ [y1]) ++ [x1])) ((own_upd f ch (Int32.ofNat vis.length))) ((mo + (1 : Int32))) ((((ms + (1 : Int32)) + (1 : Int32)) + (1 : Int32))) ((own_r ch)) ((.val (.int (-1 : Int32)))) b3 br9 kr9 b13 br21 kr21 T124 _ T124.heap X124 e124 N124 Z124 pre128 f125_0 f125_4 f125_5 f125_6 f125_7 f125_1 Fm124 Fe124 Fz124 Vs_x1 ne_b3_br9 ne_b3_b13 ne_br9_b13 ne_b3_br21 ne_br9_br21 ne_b13_br21 g_b3 sz_b3 g_br9 sz_br9 g_b13 sz_b13 g_br21 sz_br21 K126 Iv_x1 hok2 ((hfin.trans (by rw [← o4]; rfl))) ((by rw [List.length_append, List.length_singleton]; have q := hvl; rw [List.length_cons] at q; omega)) Oo Os ((Or.inr ⟨ch, rfl⟩)) ((Or.inr ⟨_, rfl⟩))
  · skip
    have ne_lc_b3 : lc ≠ b3 := Nat.ne_of_lt (Nat.lt_of_lt_of_le hl0 sz_b3)
    have ne_lc_br9 : lc ≠ br9 := Nat.ne_of_lt (Nat.lt_of_lt_of_le hl0 sz_br9)
    have ne_lc_b13 : lc ≠ b13 := Nat.ne_of_lt (Nat.lt_of_lt_of_le hl0 sz_b13)
    have ne_lc_br21 : lc ≠ br21 := Nat.ne_of_lt (Nat.lt_of_lt_of_le hl0 sz_br21)
    have ne_b1_b3 : b1 ≠ b3 := Nat.ne_of_lt (Nat.lt_of_lt_of_le hb1 sz_b3)
    have ne_b1_br9 : b1 ≠ br9 := Nat.ne_of_lt (Nat.lt_of_lt_of_le hb1 sz_br9)
    have ne_b1_b13 : b1 ≠ b13 := Nat.ne_of_lt (Nat.lt_of_lt_of_le hb1 sz_b13)
    have ne_b1_br21 : b1 ≠ br21 := Nat.ne_of_lt (Nat.lt_of_lt_of_le hb1 sz_br21)
    have hl4 : sk0.length + 3 ≤ 4 := by have q := hlen; rw [hkx] at q; exact q
    obtain ⟨cq129, kq129, q129a, q129b, q129c⟩ := isOf hZ ec E1
    obtain ⟨_, _, ⟨T129, L129, kk129, nn129⟩, -, X129, ⟨Lc129, hQ129, l129, y129, z129⟩, st129⟩ := Xc.interfaceBack hx (xi := own_y22) (y := own_y28) hown (mvT hZ (own_h hw 331 rfl)) (mvT hZ (own_h hw 332 rfl)) (mvT hZ (own_h hw 333 rfl)) (mvT hZ (own_h hw 334 rfl)) (mvT hZ (own_h hw 335 rfl)) (mvT hZ (own_h hw 336 rfl)) (mvT hZ (own_h hw 337 rfl)) (mvT hZ (own_h hw 338 rfl)) (by decide) (backOf (W := 0) (rm_lns l Z a0 hw [] lc b1 (3 : Int32) k1 [.ref x1, .ref y1, .ref z1] hhc n0 Zc G1 V1) hZ (own_h hw 339 rfl) (own_h hw 258 rfl) (by decide) (by decide)) q129a q129b q129c (g := (mkF m 65 #[own_r r, own_r b3, own_r b13, own_r ch, s4] [(.ref lc)])) rfl (by rw [hml]; rfl) (Steps.refl _) (argsL := []) (rest := []) (lenOf pd___I rfl) rfl (by show 2 * 0 + _ ≤ _; exact Nat.le_of_eq rfl) (hb hby didx_65) (fun _ _ => ⟨rfl, ec, (by decide : 4 + 0 ≤ _), (by decide : 20 + 0 ≤ _)⟩)
    dsimp only [Pt.U, Pt.locs, Pt.cells, Pt.slots] at X129 l129 y129 z129 st129 hQ129
    subst l129 y129 z129
    obtain ⟨rfl, N129q, eq129⟩ := hQ129
    have N129 := Fr.app Nc N129q
    clear q129a q129b q129c N129q
    have pre130 : ∀ t, Steps p.tables e below (T129.setTop (mkF m 74 #[own_r r, own_r b3, own_r b13, own_r ch, .val (.int (2 : Int32))] [])) t → Steps p.tables e below (s₁.setTop (entryFrame m #[(.ref r)] 5)) t := fun t k => prec t (by
      refine st129.trans ?_
      refine XS.iconst X129.here hx rfl (hb hby didx_70) ?_
      refine XS.isub X129.here hx rfl (hb hby didx_71) rfl ?_
      show Steps p.tables e below (T129.setTop (mkF m 72 #[own_r r, own_r b3, own_r b13, own_r ch, s4] [(.int ((3 : Int32) - (1 : Int32)))])) _
      rw [show ((3 : Int32) - (1 : Int32)) = (2 : Int32) from by decide]
      refine XS.istore X129.here hx rfl (hb hby didx_72) rfl (l' := #[own_r r, own_r b3, own_r b13, own_r ch, .val (.int (2 : Int32))]) (by rcases hs4 with rfl | ⟨_, rfl⟩ <;> rfl) ?_
      exact k)
    have hm_z1 := hkk z1 (by rw [hkx]; exact List.mem_of_getElem? (i := 2) rfl)
    have hN_z1 := hDN z1 hm_z1.1
    have g_z1 := hnD z1 hm_z1.1
    obtain ⟨Ez_z1, ⟨lz_z1, Gz_z1, Kz_z1⟩, Sz_z1, Pz_z1, vz_z1, Qz_z1⟩ := Inv2 z1 hm_z1.1
    have ne_z1_b3 : z1 ≠ b3 := Nat.ne_of_lt (Nat.lt_of_lt_of_le hN_z1 sz_b3)
    have ne_z1_br9 : z1 ≠ br9 := Nat.ne_of_lt (Nat.lt_of_lt_of_le hN_z1 sz_br9)
    have ne_z1_b13 : z1 ≠ b13 := Nat.ne_of_lt (Nat.lt_of_lt_of_le hN_z1 sz_b13)
    have ne_z1_br21 : z1 ≠ br21 := Nat.ne_of_lt (Nat.lt_of_lt_of_le hN_z1 sz_br21)
    have ne_lc_z1 : lc ≠ z1 := E1.ne Ez_z1 (by decide)
    have ne_z1_b1 : z1 ≠ b1 := Ez_z1.neArv V1 wT
    have Kv_z1 : Keep hhc hhc [z1, b13, br21] := Keep.refl _ _
    have pre131 : own_G p e below T129 s₁ _ _ := fun t k => pre130 t (by
      refine XS.iload X129.here hx rfl (hb hby didx_74) rfl ?_
      refine XS.ifNo X129.here hx rfl (hb hby didx_76) rfl (XT.i0_lt_f (by decide)) ?_
      refine XS.aloadN X129.here hx rfl (hb hby didx_79) rfl rfl ?_
      exact k)
    obtain ⟨T132, X132, e132, st132⟩ := getF X129 hx hZ hown (host := "") (Or.inl (own_h hw 99 rfl)) Via.refl eq129 fc2_3 (g := (mkF m 80 #[own_r r, own_r b3, own_r b13, own_r ch, .val (.int (2 : Int32))] [(.ref ch)])) rfl rfl (hb hby didx_80)
    have pre133 : own_G p e below T132 s₁ _ _ := fun t k => pre131 t (by
      refine st132 _ ?_
      refine XS.iload X132.here hx rfl (hb hby didx_83) rfl ?_
      exact k)
    obtain ⟨cq134, kq134, q134a, q134b, q134c⟩ := isOf hZ e132 E1
    obtain ⟨_, _, ⟨T134, L134, kk134, nn134⟩, -, X134, ⟨Lc134, hQ134, l134, y134, z134⟩, st134⟩ := X132.interfaceBack hx (xi := own_y2) (y := own_y6) hown (mvT hZ (own_h hw 340 rfl)) (mvT hZ (own_h hw 341 rfl)) (mvT hZ (own_h hw 342 rfl)) (mvT hZ (own_h hw 343 rfl)) (mvT hZ (own_h hw 344 rfl)) (mvT hZ (own_h hw 345 rfl)) (mvT hZ (own_h hw 346 rfl)) (mvT hZ (own_h hw 338 rfl)) (by decide) (backOf (W := 0) (rm_lng l Z a0 hw [] lc b1 z1 (2 : Int32) (3 : Int32) k1 [.ref x1, .ref y1, .ref z1] hhc n0 Zc G1 V1 (by decide) rfl) hZ (own_h hw 347 rfl) (own_h hw 258 rfl) (by decide) (by decide)) q134a q134b q134c (g := (mkF m 85 #[own_r r, own_r b3, own_r b13, own_r ch, .val (.int (2 : Int32))] [(.int (2 : Int32)), (.ref lc)])) rfl (by rw [hml]; rfl) (Steps.refl _) (argsL := [(.int (2 : Int32))]) (rest := []) (lenOf pd__I_Ljava_lang_Object_ rfl) rfl (by show 2 * 0 + _ ≤ _; exact Nat.le_of_eq rfl) (hb hby didx_85) (fun _ _ => ⟨rfl, e132, (by decide : 4 + 0 ≤ _), (by decide : 20 + 0 ≤ _)⟩)
    dsimp only [Pt.U, Pt.locs, Pt.cells, Pt.slots] at X134 l134 y134 z134 st134 hQ134
    subst l134 y134 z134
    obtain ⟨rfl, N134q, eq134⟩ := hQ134
    have N134 := Fr.app N129 N134q
    clear X129 st129 eq129 N129 pre130 pre131 X132 e132 st132 q134a q134b q134c N134q
    have pre135 : own_G p e below T134 s₁ _ _ := fun t k => pre133 t (by
      refine st134.trans ?_
      exact k)
    obtain ⟨T136, X136, e136, st136⟩ := castY X134 hx hZ hown (own_h hw 295 rfl) eq134 (Ins.of_exa Ez_z1 (own_h hw 296 rfl)) (g := (mkF m 90 #[own_r r, own_r b3, own_r b13, own_r ch, .val (.int (2 : Int32))] [(.ref z1)])) rfl rfl (hb hby didx_90)
    have pre137 : own_G p e below T136 s₁ _ _ := fun t k => pre135 t (by
      refine st136 _ ?_
      refine XS.aloadN X136.here hx rfl (hb hby didx_93) rfl rfl ?_
      exact k)
    obtain ⟨T138, h138, X138, e138, W138, st138⟩ := putF X136 hx hZ hown (host := "") (Or.inl (own_h hw 348 rfl)) Via.refl e136 Qz_z1 Ez_z1 (Or.inl (own_h hw 349 rfl)) (own_h hw 32 rfl) (ty := (.object "com/example/tributary/tributary/merge/Tree")) (by decide) rfl rfl (g := (mkF m 94 #[own_r r, own_r b3, own_r b13, own_r ch, .val (.int (2 : Int32))] [(.ref ch), (.ref z1)])) rfl rfl (hb hby didx_94)
    have F138 := Qz_z1.same W138
    have N138 := Fr.snoc X138 N134 g_z1
    have f139_0 := fc2_0.wr W138
    have f139_1 := fc2_1.wr W138
    have f139_2 := fc2_2.wr W138
    have f139_3 := fc2_3.other W138 (Or.inl hm_z1.2.symm)
    have f139_4 := fc2_4.other W138 (Or.inl ne_z1_b13.symm)
    have f139_5 := fc2_5.other W138 (Or.inl ne_z1_b13.symm)
    have f139_6 := fc2_6.other W138 (Or.inl ne_z1_b13.symm)
    have f139_7 := fc2_7.other W138 ne_z1_br21.symm
    have f139_8 := fc2_8.other W138 (Or.inl ne_z1_b3.symm)
    have f139_9 := fc2_9.other W138 (Or.inl ne_z1_b3.symm)
    have f139_10 := fc2_10.other W138 (Or.inl ne_z1_b3.symm)
    have f139_11 := fc2_11.other W138 ne_z1_br9.symm
    have f139_12 := E1.wr W138
    have f139_13 := G1.other W138 (Or.inl ne_lc_z1)
    have f139_14 := V1.other W138 ne_z1_b1.symm
    have f139_15 := Ez_z1.wr W138
    have f139_16 := Gz_z1.other W138 (Or.inr (own_sn (own_l100 hw) (own_l349 hw) (by decide)))
    have f139_17 := Sz_z1.other W138 (Or.inr (own_sn (own_l185 hw) (own_l349 hw) (by decide)))
    have f139_18 := Pz_z1.other W138 (Or.inr (own_sn (own_l330 hw) (own_l349 hw) (by decide)))
    have K140 := Kk.wr W138 (Or.inl hm_z1.1)
    have K141 := Kv_z1.wr W138 (Or.inl (List.mem_of_getElem? (i := 0) rfl))
    have Z138 : n0 ≤ h138.size := Nat.le_trans Zc (Keep.of_wr W138).1
    have pre142 : own_G p e below T138 s₁ _ _ := fun t k => pre137 t (by
      refine st138 _ ?_
      refine XS.aloadN X138.here hx rfl (hb hby didx_97) rfl rfl ?_
      refine XS.aloadN X138.here hx rfl (hb hby didx_98) rfl rfl ?_
      exact k)
    obtain ⟨T143, X143, e143, st143⟩ := getF X138 hx hZ hown (host := "") (Or.inl (own_h hw 99 rfl)) Via.refl e138 f139_3 (g := (mkF m 99 #[own_r r, own_r b3, own_r b13, own_r ch, .val (.int (2 : Int32))] [(.ref ch), (.ref b13)])) rfl rfl (hb hby didx_99)
    have pre144 : own_G p e below T143 s₁ _ _ := fun t k => pre142 t (by
      refine st143 _ ?_
      refine XS.iload X143.here hx rfl (hb hby didx_102) rfl ?_
      exact k)
    obtain ⟨cq145, kq145, q145a, q145b, q145c⟩ := isOf hZ e143 f139_12
    obtain ⟨_, _, ⟨T145, L145, kk145, nn145⟩, -, X145, ⟨Lc145, hQ145, l145, y145, z145⟩, st145⟩ := X143.interfaceBack hx (xi := own_y2) (y := own_y6) hown (mvT hZ (own_h hw 340 rfl)) (mvT hZ (own_h hw 341 rfl)) (mvT hZ (own_h hw 342 rfl)) (mvT hZ (own_h hw 343 rfl)) (mvT hZ (own_h hw 344 rfl)) (mvT hZ (own_h hw 345 rfl)) (mvT hZ (own_h hw 346 rfl)) (mvT hZ (own_h hw 338 rfl)) (by decide) (backOf (W := 1) (rm_lng l Z a0 hw [] lc b1 z1 (2 : Int32) (3 : Int32) k1 [.ref x1, .ref y1, .ref z1] h138 n0 Z138 f139_13 f139_14 (by decide) rfl) hZ (own_h hw 347 rfl) (own_h hw 258 rfl) (by decide) (by decide)) q145a q145b q145c (g := (mkF m 104 #[own_r r, own_r b3, own_r b13, own_r ch, .val (.int (2 : Int32))] [(.int (2 : Int32)), (.ref lc), (.ref b13)])) rfl (by rw [hml]; rfl) (Steps.refl _) (argsL := [(.int (2 : Int32))]) (rest := [(.ref b13)]) (lenOf pd__I_Ljava_lang_Object_ rfl) rfl (by show 2 * 0 + _ ≤ _; exact Nat.le_of_eq rfl) (hb hby didx_104) (fun _ _ => ⟨rfl, e143, (by decide : 4 + 0 ≤ _), (by decide : 20 + 0 ≤ _)⟩)
    dsimp only [Pt.U, Pt.locs, Pt.cells, Pt.slots] at X145 l145 y145 z145 st145 hQ145
    subst l145 y145 z145
    obtain ⟨rfl, N145q, eq145⟩ := hQ145
    have N145 := Fr.app N138 N145q
    clear pre133 X134 st134 eq134 N134 pre135 X136 e136 st136 pre137 X138 e138 W138 st138 N138 pre142 X143 e143 st143 q145a q145b q145c N145q
    have pre146 : own_G p e below T145 s₁ _ _ := fun t k => pre144 t (by
      refine st145.trans ?_
      exact k)
    obtain ⟨T147, X147, e147, st147⟩ := castY X145 hx hZ hown (own_h hw 295 rfl) eq145 (Ins.of_exa f139_15 (own_h hw 296 rfl)) (g := (mkF m 109 #[own_r r, own_r b3, own_r b13, own_r ch, .val (.int (2 : Int32))] [(.ref z1), (.ref b13)])) rfl rfl (hb hby didx_109)
    obtain ⟨a1_z1, a2_z1, a3_z1, a4_z1⟩ := own_ad (x := z1) (xs := sk0) (by omega)
    have pre148 : own_G p e below T147 s₁ _ _ := fun t k => pre146 t (by
      refine st147 _ ?_
      exact k)
    obtain ⟨cq149, kq149, q149a, q149b, q149c⟩ := isOf hZ e147 f139_1
    obtain ⟨_, _, ⟨T149, L149, kk149, nn149⟩, -, X149, ⟨Lc149, hQ149, l149, y149, z149⟩, st149⟩ := X147.virtualBack hx (y := own_y1) (z := own_y1) hown (mvT hZ (own_h hw 306 rfl)) (mvT hZ (own_h hw 189 rfl)) (notFace_of_selects (args := #[]) (mvT hZ (own_h hw 191 rfl))) (mvT hZ (own_h hw 191 rfl)) (mvT hZ (own_h hw 190 rfl)) (by decide) (backOf (W := 0) (rm_adr l Z a0 hw [] b13 z1 br21 (ms + (1 : Int32)) (Int32.ofNat sk0.length) (Int32.ofNat (sk0 ++ [z1]).length) (10 : Int32) kr21 (List.map Value.ref sk0) h138 n0 Z138 f139_1 f139_4 f139_5 f139_6 f139_7 Os f139_15 g_b13 g_br21 ne_b13_br21 a1_z1 a2_z1 a3_z1 a4_z1) hZ (own_h hw 192 rfl) (own_h hw 3 rfl) (by decide) (by decide)) q149a q149c (g := (mkF m 112 #[own_r r, own_r b3, own_r b13, own_r ch, .val (.int (2 : Int32))] [(.ref z1), (.ref b13)])) rfl (by rw [hml]; rfl) (Steps.refl _) (argsL := [(.ref z1)]) (rest := []) (lenOf pd__Ljava_lang_Object__Z rfl) rfl (by show 2 * 0 + _ ≤ _; exact Nat.le_of_eq rfl) (hb hby didx_112) (fun _ _ => ⟨rfl, e147, (by decide : 4 + 0 ≤ _), (by decide : 20 + 0 ≤ _)⟩)
    dsimp only [Pt.U, Pt.locs, Pt.cells, Pt.slots] at X149 l149 y149 z149 st149 hQ149
    subst l149 y149 z149
    obtain ⟨rfl, N149q, Kc149, Fm149, Fe149, Fz149, Va149⟩ := hQ149
    have N149 := Fr.app N145 N149q
    have f150_0 := f139_0.keep Kc149
    have f150_1 := f139_1.keep Kc149
    have f150_2 := f139_2.keep Kc149
    have f150_3 := f139_3.keep Kc149 (own_nm2 ne_ch_b13 ne_ch_br21)
    have f150_8 := f139_8.keep Kc149 (own_nm2 ne_b3_b13 ne_b3_br21)
    have f150_9 := f139_9.keep Kc149 (own_nm2 ne_b3_b13 ne_b3_br21)
    have f150_10 := f139_10.keep Kc149 (own_nm2 ne_b3_b13 ne_b3_br21)
    have f150_11 := f139_11.keep Kc149 (own_nm2 ne_br9_b13 ne_br9_br21)
    have f150_12 := f139_12.keep Kc149
    have f150_13 := f139_13.keep Kc149 (own_nm2 ne_lc_b13 ne_lc_br21)
    have f150_14 := f139_14.keep Kc149 (own_nm2 ne_b1_b13 ne_b1_br21)
    have f150_15 := f139_15.keep Kc149
    have f150_16 := f139_16.keep Kc149 (own_nm2 ne_z1_b13 ne_z1_br21)
    have f150_17 := f139_17.keep Kc149 (own_nm2 ne_z1_b13 ne_z1_br21)
    have f150_18 := f139_18.keep Kc149 (own_nm2 ne_z1_b13 ne_z1_br21)
    have f150_19 := F138.keep Kc149 (own_nm2 ne_z1_b13 ne_z1_br21)
    have K151 := K140.trans Kc149 (by intro x hx; simp only [List.mem_cons, List.not_mem_nil, or_false] at hx; rcases hx with rfl | rfl; exact (Or.inr sz_b13); exact (Or.inr sz_br21))
    have K152 := K141.trans Kc149 (by intro x hx; simp only [List.mem_cons, List.not_mem_nil, or_false] at hx; rcases hx with rfl | rfl; exact (Or.inl (List.mem_of_getElem? (i := 1) rfl)); exact (Or.inl (List.mem_of_getElem? (i := 2) rfl)))
    have Z149 : n0 ≤ T149.heap.size := Nat.le_trans Z138 Kc149.1
    have e149 : T149.heap = T149.heap := rfl
    clear F138 f139_0 f139_1 f139_2 f139_3 f139_4 f139_5 f139_6 f139_7 f139_8 f139_9 f139_10 f139_11 f139_12 f139_13 f139_14 f139_15 f139_16 f139_17 f139_18 K140 K141 Z138 pre144 X145 st145 eq145 N145 pre146 X147 e147 st147 q149a q149b q149c N149q Kc149
    have Vs_z1 : Arv Z T149.heap br21 kr21 (.object "java/lang/Object") (10 : Int32) (List.map Value.ref (sk0 ++ [z1])) .null := by rw [own_ma]; exact Va149
    have Iv_z1 : own_Inv Z T149.heap em h0.size [r, ta, tb, tc] K S (own_upd f ch (Int32.ofNat vis.length)) := own_Inv_upd wT hDN Inv2 hm_z1.1 K152 (by intro y hy; simp only [List.mem_cons, List.not_mem_nil, or_false] at hy; rcases hy with rfl | rfl | rfl; exact Or.inl rfl; exact Or.inr sz_b13; exact Or.inr sz_br21) f150_16 Kz_z1 f150_17 f150_18 rfl f150_19 (fun y hy => rfl)
    have pre153 : own_G p e below T149 s₁ _ _ := fun t k => pre148 t (by
      refine st149.trans ?_
      refine XT.pop X149.here hx rfl (hb hby didx_115) rfl rfl ?_
      refine XT.iincV X149.here hx rfl (-1 : Int32) (hb hby didx_116) (by decide) rfl (l' := #[own_r r, own_r b3, own_r b13, own_r ch, .val (.int ((2 : Int32) + (-1 : Int32)))]) rfl ?_
      show Steps p.tables e below (T149.setTop (mkF m 119 #[own_r r, own_r b3, own_r b13, own_r ch, .val (.int ((2 : Int32) + (-1 : Int32)))] [])) _
      rw [show ((2 : Int32) + (-1 : Int32)) = (1 : Int32) from by decide]
      refine XS.goto X149.here hx rfl (pc0 := 119) (pc' := 74) rfl (hb hby didx_119) (by decide) (by decide) ?_
      exact k)
    have hm_y1 := hkk y1 (by rw [hkx]; exact List.mem_of_getElem? (i := 1) rfl)
    have hN_y1 := hDN y1 hm_y1.1
    have g_y1 := hnD y1 hm_y1.1
    obtain ⟨Ez_y1, ⟨lz_y1, Gz_y1, Kz_y1⟩, Sz_y1, Pz_y1, vz_y1, Qz_y1⟩ := Iv_z1 y1 hm_y1.1
    have ne_y1_b3 : y1 ≠ b3 := Nat.ne_of_lt (Nat.lt_of_lt_of_le hN_y1 sz_b3)
    have ne_y1_br9 : y1 ≠ br9 := Nat.ne_of_lt (Nat.lt_of_lt_of_le hN_y1 sz_br9)
    have ne_y1_b13 : y1 ≠ b13 := Nat.ne_of_lt (Nat.lt_of_lt_of_le hN_y1 sz_b13)
    have ne_y1_br21 : y1 ≠ br21 := Nat.ne_of_lt (Nat.lt_of_lt_of_le hN_y1 sz_br21)
    have ne_lc_y1 : lc ≠ y1 := f150_12.ne Ez_y1 (by decide)
    have ne_y1_b1 : y1 ≠ b1 := Ez_y1.neArv f150_14 wT
    have Kv_y1 : Keep T149.heap T149.heap [y1, b13, br21] := Keep.refl _ _
    have pre154 : own_G p e below T149 s₁ _ _ := fun t k => pre153 t (by
      refine XS.iload X149.here hx rfl (hb hby didx_74) rfl ?_
      refine XS.ifNo X149.here hx rfl (hb hby didx_76) rfl (XT.i0_lt_f (by decide)) ?_
      refine XS.aloadN X149.here hx rfl (hb hby didx_79) rfl rfl ?_
      exact k)
    obtain ⟨T155, X155, e155, st155⟩ := getF X149 hx hZ hown (host := "") (Or.inl (own_h hw 99 rfl)) Via.refl e149 f150_3 (g := (mkF m 80 #[own_r r, own_r b3, own_r b13, own_r ch, .val (.int (1 : Int32))] [(.ref ch)])) rfl rfl (hb hby didx_80)
    have pre156 : own_G p e below T155 s₁ _ _ := fun t k => pre154 t (by
      refine st155 _ ?_
      refine XS.iload X155.here hx rfl (hb hby didx_83) rfl ?_
      exact k)
    obtain ⟨cq157, kq157, q157a, q157b, q157c⟩ := isOf hZ e155 f150_12
    obtain ⟨_, _, ⟨T157, L157, kk157, nn157⟩, -, X157, ⟨Lc157, hQ157, l157, y157, z157⟩, st157⟩ := X155.interfaceBack hx (xi := own_y2) (y := own_y6) hown (mvT hZ (own_h hw 340 rfl)) (mvT hZ (own_h hw 341 rfl)) (mvT hZ (own_h hw 342 rfl)) (mvT hZ (own_h hw 343 rfl)) (mvT hZ (own_h hw 344 rfl)) (mvT hZ (own_h hw 345 rfl)) (mvT hZ (own_h hw 346 rfl)) (mvT hZ (own_h hw 338 rfl)) (by decide) (backOf (W := 0) (rm_lng l Z a0 hw [] lc b1 y1 (1 : Int32) (3 : Int32) k1 [.ref x1, .ref y1, .ref z1] T149.heap n0 Z149 f150_13 f150_14 (by decide) rfl) hZ (own_h hw 347 rfl) (own_h hw 258 rfl) (by decide) (by decide)) q157a q157b q157c (g := (mkF m 85 #[own_r r, own_r b3, own_r b13, own_r ch, .val (.int (1 : Int32))] [(.int (1 : Int32)), (.ref lc)])) rfl (by rw [hml]; rfl) (Steps.refl _) (argsL := [(.int (1 : Int32))]) (rest := []) (lenOf pd__I_Ljava_lang_Object_ rfl) rfl (by show 2 * 0 + _ ≤ _; exact Nat.le_of_eq rfl) (hb hby didx_85) (fun _ _ => ⟨rfl, e155, (by decide : 4 + 0 ≤ _), (by decide : 20 + 0 ≤ _)⟩)
    dsimp only [Pt.U, Pt.locs, Pt.cells, Pt.slots] at X157 l157 y157 z157 st157 hQ157
    subst l157 y157 z157
    obtain ⟨rfl, N157q, eq157⟩ := hQ157
    have N157 := Fr.app N149 N157q
    clear pre148 X149 st149 N149 f150_15 f150_16 f150_17 f150_18 f150_19 K152 e149 pre153 pre154 X155 e155 st155 q157a q157b q157c N157q
    have pre158 : own_G p e below T157 s₁ _ _ := fun t k => pre156 t (by
      refine st157.trans ?_
      exact k)
    obtain ⟨T159, X159, e159, st159⟩ := castY X157 hx hZ hown (own_h hw 295 rfl) eq157 (Ins.of_exa Ez_y1 (own_h hw 296 rfl)) (g := (mkF m 90 #[own_r r, own_r b3, own_r b13, own_r ch, .val (.int (1 : Int32))] [(.ref y1)])) rfl rfl (hb hby didx_90)
    have pre160 : own_G p e below T159 s₁ _ _ := fun t k => pre158 t (by
      refine st159 _ ?_
      refine XS.aloadN X159.here hx rfl (hb hby didx_93) rfl rfl ?_
      exact k)
    obtain ⟨T161, h161, X161, e161, W161, st161⟩ := putF X159 hx hZ hown (host := "") (Or.inl (own_h hw 348 rfl)) Via.refl e159 Qz_y1 Ez_y1 (Or.inl (own_h hw 349 rfl)) (own_h hw 32 rfl) (ty := (.object "com/example/tributary/tributary/merge/Tree")) (by decide) rfl rfl (g := (mkF m 94 #[own_r r, own_r b3, own_r b13, own_r ch, .val (.int (1 : Int32))] [(.ref ch), (.ref y1)])) rfl rfl (hb hby didx_94)
    have F161 := Qz_y1.same W161
    have N161 := Fr.snoc X161 N157 g_y1
    have f162_0 := f150_0.wr W161
    have f162_1 := f150_1.wr W161
    have f162_2 := f150_2.wr W161
    have f162_3 := f150_3.other W161 (Or.inl hm_y1.2.symm)
    have f162_4 := f150_8.other W161 (Or.inl ne_y1_b3.symm)
    have f162_5 := f150_9.other W161 (Or.inl ne_y1_b3.symm)
    have f162_6 := f150_10.other W161 (Or.inl ne_y1_b3.symm)
    have f162_7 := f150_11.other W161 ne_y1_br9.symm
    have f162_8 := f150_12.wr W161
    have f162_9 := f150_13.other W161 (Or.inl ne_lc_y1)
    have f162_10 := f150_14.other W161 ne_y1_b1.symm
    have f162_11 := Fm149.other W161 (Or.inl ne_y1_b13.symm)
    have f162_12 := Fe149.other W161 (Or.inl ne_y1_b13.symm)
    have f162_13 := Fz149.other W161 (Or.inl ne_y1_b13.symm)
    have f162_14 := Vs_z1.other W161 ne_y1_br21.symm
    have f162_15 := Ez_y1.wr W161
    have f162_16 := Gz_y1.other W161 (Or.inr (own_sn (own_l100 hw) (own_l349 hw) (by decide)))
    have f162_17 := Sz_y1.other W161 (Or.inr (own_sn (own_l185 hw) (own_l349 hw) (by decide)))
    have f162_18 := Pz_y1.other W161 (Or.inr (own_sn (own_l330 hw) (own_l349 hw) (by decide)))
    have K163 := K151.wr W161 (Or.inl hm_y1.1)
    have K164 := Kv_y1.wr W161 (Or.inl (List.mem_of_getElem? (i := 0) rfl))
    have Z161 : n0 ≤ h161.size := Nat.le_trans Z149 (Keep.of_wr W161).1
    have pre165 : own_G p e below T161 s₁ _ _ := fun t k => pre160 t (by
      refine st161 _ ?_
      refine XS.aloadN X161.here hx rfl (hb hby didx_97) rfl rfl ?_
      refine XS.aloadN X161.here hx rfl (hb hby didx_98) rfl rfl ?_
      exact k)
    obtain ⟨T166, X166, e166, st166⟩ := getF X161 hx hZ hown (host := "") (Or.inl (own_h hw 99 rfl)) Via.refl e161 f162_3 (g := (mkF m 99 #[own_r r, own_r b3, own_r b13, own_r ch, .val (.int (1 : Int32))] [(.ref ch), (.ref b13)])) rfl rfl (hb hby didx_99)
    have pre167 : own_G p e below T166 s₁ _ _ := fun t k => pre165 t (by
      refine st166 _ ?_
      refine XS.iload X166.here hx rfl (hb hby didx_102) rfl ?_
      exact k)
    obtain ⟨cq168, kq168, q168a, q168b, q168c⟩ := isOf hZ e166 f162_8
    obtain ⟨_, _, ⟨T168, L168, kk168, nn168⟩, -, X168, ⟨Lc168, hQ168, l168, y168, z168⟩, st168⟩ := X166.interfaceBack hx (xi := own_y2) (y := own_y6) hown (mvT hZ (own_h hw 340 rfl)) (mvT hZ (own_h hw 341 rfl)) (mvT hZ (own_h hw 342 rfl)) (mvT hZ (own_h hw 343 rfl)) (mvT hZ (own_h hw 344 rfl)) (mvT hZ (own_h hw 345 rfl)) (mvT hZ (own_h hw 346 rfl)) (mvT hZ (own_h hw 338 rfl)) (by decide) (backOf (W := 1) (rm_lng l Z a0 hw [] lc b1 y1 (1 : Int32) (3 : Int32) k1 [.ref x1, .ref y1, .ref z1] h161 n0 Z161 f162_9 f162_10 (by decide) rfl) hZ (own_h hw 347 rfl) (own_h hw 258 rfl) (by decide) (by decide)) q168a q168b q168c (g := (mkF m 104 #[own_r r, own_r b3, own_r b13, own_r ch, .val (.int (1 : Int32))] [(.int (1 : Int32)), (.ref lc), (.ref b13)])) rfl (by rw [hml]; rfl) (Steps.refl _) (argsL := [(.int (1 : Int32))]) (rest := [(.ref b13)]) (lenOf pd__I_Ljava_lang_Object_ rfl) rfl (by show 2 * 0 + _ ≤ _; exact Nat.le_of_eq rfl) (hb hby didx_104) (fun _ _ => ⟨rfl, e166, (by decide : 4 + 0 ≤ _), (by decide : 20 + 0 ≤ _)⟩)
    dsimp only [Pt.U, Pt.locs, Pt.cells, Pt.slots] at X168 l168 y168 z168 st168 hQ168
    subst l168 y168 z168
    obtain ⟨rfl, N168q, eq168⟩ := hQ168
    have N168 := Fr.app N161 N168q
    clear f150_0 f150_1 f150_2 f150_3 f150_8 f150_9 f150_10 f150_11 f150_12 f150_13 f150_14 K151 Z149 pre156 X157 st157 eq157 N157 pre158 X159 e159 st159 pre160 X161 e161 W161 st161 N161 pre165 X166 e166 st166 q168a q168b q168c N168q
    have pre169 : own_G p e below T168 s₁ _ _ := fun t k => pre167 t (by
      refine st168.trans ?_
      exact k)
    obtain ⟨T170, X170, e170, st170⟩ := castY X168 hx hZ hown (own_h hw 295 rfl) eq168 (Ins.of_exa f162_15 (own_h hw 296 rfl)) (g := (mkF m 109 #[own_r r, own_r b3, own_r b13, own_r ch, .val (.int (1 : Int32))] [(.ref y1), (.ref b13)])) rfl rfl (hb hby didx_109)
    obtain ⟨a1_y1, a2_y1, a3_y1, a4_y1⟩ := own_ad (x := y1) (xs := (sk0 ++ [z1])) (by simp only [List.length_append, List.length_singleton]; omega)
    have pre171 : own_G p e below T170 s₁ _ _ := fun t k => pre169 t (by
      refine st170 _ ?_
      exact k)
    obtain ⟨cq172, kq172, q172a, q172b, q172c⟩ := isOf hZ e170 f162_1
    obtain ⟨_, _, ⟨T172, L172, kk172, nn172⟩, -, X172, ⟨Lc172, hQ172, l172, y172, z172⟩, st172⟩ := X170.virtualBack hx (y := own_y1) (z := own_y1) hown (mvT hZ (own_h hw 306 rfl)) (mvT hZ (own_h hw 189 rfl)) (notFace_of_selects (args := #[]) (mvT hZ (own_h hw 191 rfl))) (mvT hZ (own_h hw 191 rfl)) (mvT hZ (own_h hw 190 rfl)) (by decide) (backOf (W := 0) (rm_adr l Z a0 hw [] b13 y1 br21 ((ms + (1 : Int32)) + (1 : Int32)) (Int32.ofNat (sk0 ++ [z1]).length) (Int32.ofNat ((sk0 ++ [z1]) ++ [y1]).length) (10 : Int32) kr21 (List.map Value.ref (sk0 ++ [z1])) h161 n0 Z161 f162_1 f162_11 f162_12 f162_13 f162_14 Os f162_15 g_b13 g_br21 ne_b13_br21 a1_y1 a2_y1 a3_y1 a4_y1) hZ (own_h hw 192 rfl) (own_h hw 3 rfl) (by decide) (by decide)) q172a q172c (g := (mkF m 112 #[own_r r, own_r b3, own_r b13, own_r ch, .val (.int (1 : Int32))] [(.ref y1), (.ref b13)])) rfl (by rw [hml]; rfl) (Steps.refl _) (argsL := [(.ref y1)]) (rest := []) (lenOf pd__Ljava_lang_Object__Z rfl) rfl (by show 2 * 0 + _ ≤ _; exact Nat.le_of_eq rfl) (hb hby didx_112) (fun _ _ => ⟨rfl, e170, (by decide : 4 + 0 ≤ _), (by decide : 20 + 0 ≤ _)⟩)
    dsimp only [Pt.U, Pt.locs, Pt.cells, Pt.slots] at X172 l172 y172 z172 st172 hQ172
    subst l172 y172 z172
    obtain ⟨rfl, N172q, Kc172, Fm172, Fe172, Fz172, Va172⟩ := hQ172
    have N172 := Fr.app N168 N172q
    have f173_0 := f162_0.keep Kc172
    have f173_1 := f162_1.keep Kc172
    have f173_2 := f162_2.keep Kc172
    have f173_3 := f162_3.keep Kc172 (own_nm2 ne_ch_b13 ne_ch_br21)
    have f173_4 := f162_4.keep Kc172 (own_nm2 ne_b3_b13 ne_b3_br21)
    have f173_5 := f162_5.keep Kc172 (own_nm2 ne_b3_b13 ne_b3_br21)
    have f173_6 := f162_6.keep Kc172 (own_nm2 ne_b3_b13 ne_b3_br21)
    have f173_7 := f162_7.keep Kc172 (own_nm2 ne_br9_b13 ne_br9_br21)
    have f173_8 := f162_8.keep Kc172
    have f173_9 := f162_9.keep Kc172 (own_nm2 ne_lc_b13 ne_lc_br21)
    have f173_10 := f162_10.keep Kc172 (own_nm2 ne_b1_b13 ne_b1_br21)
    have f173_15 := f162_15.keep Kc172
    have f173_16 := f162_16.keep Kc172 (own_nm2 ne_y1_b13 ne_y1_br21)
    have f173_17 := f162_17.keep Kc172 (own_nm2 ne_y1_b13 ne_y1_br21)
    have f173_18 := f162_18.keep Kc172 (own_nm2 ne_y1_b13 ne_y1_br21)
    have f173_19 := F161.keep Kc172 (own_nm2 ne_y1_b13 ne_y1_br21)
    have K174 := K163.trans Kc172 (by intro x hx; simp only [List.mem_cons, List.not_mem_nil, or_false] at hx; rcases hx with rfl | rfl; exact (Or.inr sz_b13); exact (Or.inr sz_br21))
    have K175 := K164.trans Kc172 (by intro x hx; simp only [List.mem_cons, List.not_mem_nil, or_false] at hx; rcases hx with rfl | rfl; exact (Or.inl (List.mem_of_getElem? (i := 1) rfl)); exact (Or.inl (List.mem_of_getElem? (i := 2) rfl)))
    have Z172 : n0 ≤ T172.heap.size := Nat.le_trans Z161 Kc172.1
    have e172 : T172.heap = T172.heap := rfl
    clear F161 f162_0 f162_1 f162_2 f162_3 f162_4 f162_5 f162_6 f162_7 f162_8 f162_9 f162_10 f162_11 f162_12 f162_13 f162_14 f162_15 f162_16 f162_17 f162_18 K163 K164 Z161 pre167 X168 st168 eq168 N168 pre169 X170 e170 st170 q172a q172b q172c N172q Kc172
    have Vs_y1 : Arv Z T172.heap br21 kr21 (.object "java/lang/Object") (10 : Int32) (List.map Value.ref ((sk0 ++ [z1]) ++ [y1])) .null := by rw [own_ma]; exact Va172
    have Iv_y1 : own_Inv Z T172.heap em h0.size [r, ta, tb, tc] K S (own_upd f ch (Int32.ofNat vis.length)) := own_Inv_upd wT hDN Iv_z1 hm_y1.1 K175 (by intro y hy; simp only [List.mem_cons, List.not_mem_nil, or_false] at hy; rcases hy with rfl | rfl | rfl; exact Or.inl rfl; exact Or.inr sz_b13; exact Or.inr sz_br21) f173_16 Kz_y1 f173_17 f173_18 rfl f173_19 (fun y hy => rfl)
    have pre176 : own_G p e below T172 s₁ _ _ := fun t k => pre171 t (by
      refine st172.trans ?_
      refine XT.pop X172.here hx rfl (hb hby didx_115) rfl rfl ?_
      refine XT.iincV X172.here hx rfl (-1 : Int32) (hb hby didx_116) (by decide) rfl (l' := #[own_r r, own_r b3, own_r b13, own_r ch, .val (.int ((1 : Int32) + (-1 : Int32)))]) rfl ?_
      show Steps p.tables e below (T172.setTop (mkF m 119 #[own_r r, own_r b3, own_r b13, own_r ch, .val (.int ((1 : Int32) + (-1 : Int32)))] [])) _
      rw [show ((1 : Int32) + (-1 : Int32)) = (0 : Int32) from by decide]
      refine XS.goto X172.here hx rfl (pc0 := 119) (pc' := 74) rfl (hb hby didx_119) (by decide) (by decide) ?_
      exact k)
    have hm_x1 := hkk x1 (by rw [hkx]; exact List.mem_of_getElem? (i := 0) rfl)
    have hN_x1 := hDN x1 hm_x1.1
    have g_x1 := hnD x1 hm_x1.1
    obtain ⟨Ez_x1, ⟨lz_x1, Gz_x1, Kz_x1⟩, Sz_x1, Pz_x1, vz_x1, Qz_x1⟩ := Iv_y1 x1 hm_x1.1
    have ne_x1_b3 : x1 ≠ b3 := Nat.ne_of_lt (Nat.lt_of_lt_of_le hN_x1 sz_b3)
    have ne_x1_br9 : x1 ≠ br9 := Nat.ne_of_lt (Nat.lt_of_lt_of_le hN_x1 sz_br9)
    have ne_x1_b13 : x1 ≠ b13 := Nat.ne_of_lt (Nat.lt_of_lt_of_le hN_x1 sz_b13)
    have ne_x1_br21 : x1 ≠ br21 := Nat.ne_of_lt (Nat.lt_of_lt_of_le hN_x1 sz_br21)
    have ne_lc_x1 : lc ≠ x1 := f173_8.ne Ez_x1 (by decide)
    have ne_x1_b1 : x1 ≠ b1 := Ez_x1.neArv f173_10 wT
    have Kv_x1 : Keep T172.heap T172.heap [x1, b13, br21] := Keep.refl _ _
    have pre177 : own_G p e below T172 s₁ _ _ := fun t k => pre176 t (by
      refine XS.iload X172.here hx rfl (hb hby didx_74) rfl ?_
      refine XS.ifNo X172.here hx rfl (hb hby didx_76) rfl (XT.i0_lt_f (by decide)) ?_
      refine XS.aloadN X172.here hx rfl (hb hby didx_79) rfl rfl ?_
      exact k)
    obtain ⟨T178, X178, e178, st178⟩ := getF X172 hx hZ hown (host := "") (Or.inl (own_h hw 99 rfl)) Via.refl e172 f173_3 (g := (mkF m 80 #[own_r r, own_r b3, own_r b13, own_r ch, .val (.int (0 : Int32))] [(.ref ch)])) rfl rfl (hb hby didx_80)
    have pre179 : own_G p e below T178 s₁ _ _ := fun t k => pre177 t (by
      refine st178 _ ?_
      refine XS.iload X178.here hx rfl (hb hby didx_83) rfl ?_
      exact k)
    obtain ⟨cq180, kq180, q180a, q180b, q180c⟩ := isOf hZ e178 f173_8
    obtain ⟨_, _, ⟨T180, L180, kk180, nn180⟩, -, X180, ⟨Lc180, hQ180, l180, y180, z180⟩, st180⟩ := X178.interfaceBack hx (xi := own_y2) (y := own_y6) hown (mvT hZ (own_h hw 340 rfl)) (mvT hZ (own_h hw 341 rfl)) (mvT hZ (own_h hw 342 rfl)) (mvT hZ (own_h hw 343 rfl)) (mvT hZ (own_h hw 344 rfl)) (mvT hZ (own_h hw 345 rfl)) (mvT hZ (own_h hw 346 rfl)) (mvT hZ (own_h hw 338 rfl)) (by decide) (backOf (W := 0) (rm_lng l Z a0 hw [] lc b1 x1 (0 : Int32) (3 : Int32) k1 [.ref x1, .ref y1, .ref z1] T172.heap n0 Z172 f173_9 f173_10 (by decide) rfl) hZ (own_h hw 347 rfl) (own_h hw 258 rfl) (by decide) (by decide)) q180a q180b q180c (g := (mkF m 85 #[own_r r, own_r b3, own_r b13, own_r ch, .val (.int (0 : Int32))] [(.int (0 : Int32)), (.ref lc)])) rfl (by rw [hml]; rfl) (Steps.refl _) (argsL := [(.int (0 : Int32))]) (rest := []) (lenOf pd__I_Ljava_lang_Object_ rfl) rfl (by show 2 * 0 + _ ≤ _; exact Nat.le_of_eq rfl) (hb hby didx_85) (fun _ _ => ⟨rfl, e178, (by decide : 4 + 0 ≤ _), (by decide : 20 + 0 ≤ _)⟩)
    dsimp only [Pt.U, Pt.locs, Pt.cells, Pt.slots] at X180 l180 y180 z180 st180 hQ180
    subst l180 y180 z180
    obtain ⟨rfl, N180q, eq180⟩ := hQ180
    have N180 := Fr.app N172 N180q
    clear pre171 X172 st172 N172 f173_15 f173_16 f173_17 f173_18 f173_19 K175 e172 pre176 pre177 X178 e178 st178 q180a q180b q180c N180q
    have pre181 : own_G p e below T180 s₁ _ _ := fun t k => pre179 t (by
      refine st180.trans ?_
      exact k)
    obtain ⟨T182, X182, e182, st182⟩ := castY X180 hx hZ hown (own_h hw 295 rfl) eq180 (Ins.of_exa Ez_x1 (own_h hw 296 rfl)) (g := (mkF m 90 #[own_r r, own_r b3, own_r b13, own_r ch, .val (.int (0 : Int32))] [(.ref x1)])) rfl rfl (hb hby didx_90)
    have pre183 : own_G p e below T182 s₁ _ _ := fun t k => pre181 t (by
      refine st182 _ ?_
      refine XS.aloadN X182.here hx rfl (hb hby didx_93) rfl rfl ?_
      exact k)
    obtain ⟨T184, h184, X184, e184, W184, st184⟩ := putF X182 hx hZ hown (host := "") (Or.inl (own_h hw 348 rfl)) Via.refl e182 Qz_x1 Ez_x1 (Or.inl (own_h hw 349 rfl)) (own_h hw 32 rfl) (ty := (.object "com/example/tributary/tributary/merge/Tree")) (by decide) rfl rfl (g := (mkF m 94 #[own_r r, own_r b3, own_r b13, own_r ch, .val (.int (0 : Int32))] [(.ref ch), (.ref x1)])) rfl rfl (hb hby didx_94)
    have F184 := Qz_x1.same W184
    have N184 := Fr.snoc X184 N180 g_x1
    have f185_0 := f173_0.wr W184
    have f185_1 := f173_1.wr W184
    have f185_2 := f173_2.wr W184
    have f185_3 := f173_3.other W184 (Or.inl hm_x1.2.symm)
    have f185_4 := f173_4.other W184 (Or.inl ne_x1_b3.symm)
    have f185_5 := f173_5.other W184 (Or.inl ne_x1_b3.symm)
    have f185_6 := f173_6.other W184 (Or.inl ne_x1_b3.symm)
    have f185_7 := f173_7.other W184 ne_x1_br9.symm
    have f185_8 := f173_8.wr W184
    have f185_9 := f173_9.other W184 (Or.inl ne_lc_x1)
    have f185_10 := f173_10.other W184 ne_x1_b1.symm
    have f185_11 := Fm172.other W184 (Or.inl ne_x1_b13.symm)
    have f185_12 := Fe172.other W184 (Or.inl ne_x1_b13.symm)
    have f185_13 := Fz172.other W184 (Or.inl ne_x1_b13.symm)
    have f185_14 := Vs_y1.other W184 ne_x1_br21.symm
    have f185_15 := Ez_x1.wr W184
    have f185_16 := Gz_x1.other W184 (Or.inr (own_sn (own_l100 hw) (own_l349 hw) (by decide)))
    have f185_17 := Sz_x1.other W184 (Or.inr (own_sn (own_l185 hw) (own_l349 hw) (by decide)))
    have f185_18 := Pz_x1.other W184 (Or.inr (own_sn (own_l330 hw) (own_l349 hw) (by decide)))
    have K186 := K174.wr W184 (Or.inl hm_x1.1)
    have K187 := Kv_x1.wr W184 (Or.inl (List.mem_of_getElem? (i := 0) rfl))
    have Z184 : n0 ≤ h184.size := Nat.le_trans Z172 (Keep.of_wr W184).1
    have pre188 : own_G p e below T184 s₁ _ _ := fun t k => pre183 t (by
      refine st184 _ ?_
      refine XS.aloadN X184.here hx rfl (hb hby didx_97) rfl rfl ?_
      refine XS.aloadN X184.here hx rfl (hb hby didx_98) rfl rfl ?_
      exact k)
    obtain ⟨T189, X189, e189, st189⟩ := getF X184 hx hZ hown (host := "") (Or.inl (own_h hw 99 rfl)) Via.refl e184 f185_3 (g := (mkF m 99 #[own_r r, own_r b3, own_r b13, own_r ch, .val (.int (0 : Int32))] [(.ref ch), (.ref b13)])) rfl rfl (hb hby didx_99)
    have pre190 : own_G p e below T189 s₁ _ _ := fun t k => pre188 t (by
      refine st189 _ ?_
      refine XS.iload X189.here hx rfl (hb hby didx_102) rfl ?_
      exact k)
    obtain ⟨cq191, kq191, q191a, q191b, q191c⟩ := isOf hZ e189 f185_8
    obtain ⟨_, _, ⟨T191, L191, kk191, nn191⟩, -, X191, ⟨Lc191, hQ191, l191, y191, z191⟩, st191⟩ := X189.interfaceBack hx (xi := own_y2) (y := own_y6) hown (mvT hZ (own_h hw 340 rfl)) (mvT hZ (own_h hw 341 rfl)) (mvT hZ (own_h hw 342 rfl)) (mvT hZ (own_h hw 343 rfl)) (mvT hZ (own_h hw 344 rfl)) (mvT hZ (own_h hw 345 rfl)) (mvT hZ (own_h hw 346 rfl)) (mvT hZ (own_h hw 338 rfl)) (by decide) (backOf (W := 1) (rm_lng l Z a0 hw [] lc b1 x1 (0 : Int32) (3 : Int32) k1 [.ref x1, .ref y1, .ref z1] h184 n0 Z184 f185_9 f185_10 (by decide) rfl) hZ (own_h hw 347 rfl) (own_h hw 258 rfl) (by decide) (by decide)) q191a q191b q191c (g := (mkF m 104 #[own_r r, own_r b3, own_r b13, own_r ch, .val (.int (0 : Int32))] [(.int (0 : Int32)), (.ref lc), (.ref b13)])) rfl (by rw [hml]; rfl) (Steps.refl _) (argsL := [(.int (0 : Int32))]) (rest := [(.ref b13)]) (lenOf pd__I_Ljava_lang_Object_ rfl) rfl (by show 2 * 0 + _ ≤ _; exact Nat.le_of_eq rfl) (hb hby didx_104) (fun _ _ => ⟨rfl, e189, (by decide : 4 + 0 ≤ _), (by decide : 20 + 0 ≤ _)⟩)
    dsimp only [Pt.U, Pt.locs, Pt.cells, Pt.slots] at X191 l191 y191 z191 st191 hQ191
    subst l191 y191 z191
    obtain ⟨rfl, N191q, eq191⟩ := hQ191
    have N191 := Fr.app N184 N191q
    clear f173_0 f173_1 f173_2 f173_3 f173_4 f173_5 f173_6 f173_7 f173_8 f173_9 f173_10 K174 Z172 pre179 X180 st180 eq180 N180 pre181 X182 e182 st182 pre183 X184 e184 W184 st184 N184 pre188 X189 e189 st189 q191a q191b q191c N191q
    have pre192 : own_G p e below T191 s₁ _ _ := fun t k => pre190 t (by
      refine st191.trans ?_
      exact k)
    obtain ⟨T193, X193, e193, st193⟩ := castY X191 hx hZ hown (own_h hw 295 rfl) eq191 (Ins.of_exa f185_15 (own_h hw 296 rfl)) (g := (mkF m 109 #[own_r r, own_r b3, own_r b13, own_r ch, .val (.int (0 : Int32))] [(.ref x1), (.ref b13)])) rfl rfl (hb hby didx_109)
    obtain ⟨a1_x1, a2_x1, a3_x1, a4_x1⟩ := own_ad (x := x1) (xs := ((sk0 ++ [z1]) ++ [y1])) (by simp only [List.length_append, List.length_singleton]; omega)
    have pre194 : own_G p e below T193 s₁ _ _ := fun t k => pre192 t (by
      refine st193 _ ?_
      exact k)
    obtain ⟨cq195, kq195, q195a, q195b, q195c⟩ := isOf hZ e193 f185_1
    obtain ⟨_, _, ⟨T195, L195, kk195, nn195⟩, -, X195, ⟨Lc195, hQ195, l195, y195, z195⟩, st195⟩ := X193.virtualBack hx (y := own_y1) (z := own_y1) hown (mvT hZ (own_h hw 306 rfl)) (mvT hZ (own_h hw 189 rfl)) (notFace_of_selects (args := #[]) (mvT hZ (own_h hw 191 rfl))) (mvT hZ (own_h hw 191 rfl)) (mvT hZ (own_h hw 190 rfl)) (by decide) (backOf (W := 0) (rm_adr l Z a0 hw [] b13 x1 br21 (((ms + (1 : Int32)) + (1 : Int32)) + (1 : Int32)) (Int32.ofNat ((sk0 ++ [z1]) ++ [y1]).length) (Int32.ofNat (((sk0 ++ [z1]) ++ [y1]) ++ [x1]).length) (10 : Int32) kr21 (List.map Value.ref ((sk0 ++ [z1]) ++ [y1])) h184 n0 Z184 f185_1 f185_11 f185_12 f185_13 f185_14 Os f185_15 g_b13 g_br21 ne_b13_br21 a1_x1 a2_x1 a3_x1 a4_x1) hZ (own_h hw 192 rfl) (own_h hw 3 rfl) (by decide) (by decide)) q195a q195c (g := (mkF m 112 #[own_r r, own_r b3, own_r b13, own_r ch, .val (.int (0 : Int32))] [(.ref x1), (.ref b13)])) rfl (by rw [hml]; rfl) (Steps.refl _) (argsL := [(.ref x1)]) (rest := []) (lenOf pd__Ljava_lang_Object__Z rfl) rfl (by show 2 * 0 + _ ≤ _; exact Nat.le_of_eq rfl) (hb hby didx_112) (fun _ _ => ⟨rfl, e193, (by decide : 4 + 0 ≤ _), (by decide : 20 + 0 ≤ _)⟩)
    dsimp only [Pt.U, Pt.locs, Pt.cells, Pt.slots] at X195 l195 y195 z195 st195 hQ195
    subst l195 y195 z195
    obtain ⟨rfl, N195q, Kc195, Fm195, Fe195, Fz195, Va195⟩ := hQ195
    have N195 := Fr.app N191 N195q
    have f196_0 := f185_0.keep Kc195
    have f196_1 := f185_1.keep Kc195
    have f196_2 := f185_2.keep Kc195
    have f196_3 := f185_3.keep Kc195 (own_nm2 ne_ch_b13 ne_ch_br21)
    have f196_4 := f185_4.keep Kc195 (own_nm2 ne_b3_b13 ne_b3_br21)
    have f196_5 := f185_5.keep Kc195 (own_nm2 ne_b3_b13 ne_b3_br21)
    have f196_6 := f185_6.keep Kc195 (own_nm2 ne_b3_b13 ne_b3_br21)
    have f196_7 := f185_7.keep Kc195 (own_nm2 ne_br9_b13 ne_br9_br21)
    have f196_8 := f185_8.keep Kc195
    have f196_9 := f185_9.keep Kc195 (own_nm2 ne_lc_b13 ne_lc_br21)
    have f196_10 := f185_10.keep Kc195 (own_nm2 ne_b1_b13 ne_b1_br21)
    have f196_15 := f185_15.keep Kc195
    have f196_16 := f185_16.keep Kc195 (own_nm2 ne_x1_b13 ne_x1_br21)
    have f196_17 := f185_17.keep Kc195 (own_nm2 ne_x1_b13 ne_x1_br21)
    have f196_18 := f185_18.keep Kc195 (own_nm2 ne_x1_b13 ne_x1_br21)
    have f196_19 := F184.keep Kc195 (own_nm2 ne_x1_b13 ne_x1_br21)
    have K197 := K186.trans Kc195 (by intro x hx; simp only [List.mem_cons, List.not_mem_nil, or_false] at hx; rcases hx with rfl | rfl; exact (Or.inr sz_b13); exact (Or.inr sz_br21))
    have K198 := K187.trans Kc195 (by intro x hx; simp only [List.mem_cons, List.not_mem_nil, or_false] at hx; rcases hx with rfl | rfl; exact (Or.inl (List.mem_of_getElem? (i := 1) rfl)); exact (Or.inl (List.mem_of_getElem? (i := 2) rfl)))
    have Z195 : n0 ≤ T195.heap.size := Nat.le_trans Z184 Kc195.1
    have e195 : T195.heap = T195.heap := rfl
    clear F184 f185_0 f185_1 f185_2 f185_3 f185_4 f185_5 f185_6 f185_7 f185_8 f185_9 f185_10 f185_11 f185_12 f185_13 f185_14 f185_15 f185_16 f185_17 f185_18 K186 K187 Z184 pre190 X191 st191 eq191 N191 pre192 X193 e193 st193 q195a q195b q195c N195q Kc195
    have Vs_x1 : Arv Z T195.heap br21 kr21 (.object "java/lang/Object") (10 : Int32) (List.map Value.ref (((sk0 ++ [z1]) ++ [y1]) ++ [x1])) .null := by rw [own_ma]; exact Va195
    have Iv_x1 : own_Inv Z T195.heap em h0.size [r, ta, tb, tc] K S (own_upd f ch (Int32.ofNat vis.length)) := own_Inv_upd wT hDN Iv_y1 hm_x1.1 K198 (by intro y hy; simp only [List.mem_cons, List.not_mem_nil, or_false] at hy; rcases hy with rfl | rfl | rfl; exact Or.inl rfl; exact Or.inr sz_b13; exact Or.inr sz_br21) f196_16 Kz_x1 f196_17 f196_18 rfl f196_19 (fun y hy => rfl)
    have pre199 : own_G p e below T195 s₁ _ _ := fun t k => pre194 t (by
      refine st195.trans ?_
      refine XT.pop X195.here hx rfl (hb hby didx_115) rfl rfl ?_
      refine XT.iincV X195.here hx rfl (-1 : Int32) (hb hby didx_116) (by decide) rfl (l' := #[own_r r, own_r b3, own_r b13, own_r ch, .val (.int ((0 : Int32) + (-1 : Int32)))]) rfl ?_
      show Steps p.tables e below (T195.setTop (mkF m 119 #[own_r r, own_r b3, own_r b13, own_r ch, .val (.int ((0 : Int32) + (-1 : Int32)))] [])) _
      rw [show ((0 : Int32) + (-1 : Int32)) = (-1 : Int32) from by decide]
      refine XS.goto X195.here hx rfl (pc0 := 119) (pc' := 74) rfl (hb hby didx_119) (by decide) (by decide) ?_
      refine XS.iload X195.here hx rfl (hb hby didx_74) rfl ?_
      refine XS.ifYes X195.here hx rfl (pc0 := 76) (pc' := 122) rfl (hb hby didx_76) rfl (XT.i0_lt_t (by decide)) (by decide) (by decide) ?_
      refine XS.goto X195.here hx rfl (pc0 := 122) (pc' := 26) rfl (hb hby didx_122) (by decide) (by decide) ?_
      exact k)
    have hst : sk0 ++ (K ch).reverse = (((sk0 ++ [z1]) ++ [y1]) ++ [x1]) := by rw [hkx]; simp
    rw [hst] at hok2
    exact ih ((vis ++ [ch])) ((((sk0 ++ [z1]) ++ [y1]) ++ [x1])) ((own_upd f ch (Int32.ofNat vis.length))) ((mo + (1 : Int32))) (((((ms + (1 : Int32)) + (1 : Int32)) + (1 : Int32)) + (1 : Int32))) ((own_r ch)) ((.val (.int (-1 : Int32)))) b3 br9 kr9 b13 br21 kr21 T195 _ T195.heap X195 e195 N195 Z195 pre199 f196_0 f196_4 f196_5 f196_6 f196_7 f196_1 Fm195 Fe195 Fz195 Vs_x1 ne_b3_br9 ne_b3_b13 ne_br9_b13 ne_b3_br21 ne_br9_br21 ne_b13_br21 g_b3 sz_b3 g_br9 sz_br9 g_b13 sz_b13 g_br21 sz_br21 K197 Iv_x1 hok2 ((hfin.trans (by rw [← o4]; rfl))) ((by rw [List.length_append, List.length_singleton]; have q := hvl; rw [List.length_cons] at q; omega)) Oo Os ((Or.inr ⟨ch, rfl⟩)) ((Or.inr ⟨_, rfl⟩))
theorem rs_idx_1 (l : Launch) (Z : State) (a0 : Array Value) (hw : own_W a0 Z) (ws : List Jvm.Cond) (r ta tb tc em de : Addr) (kd : ClassId) (K : Addr → List Addr) (S f0 : Addr → Int32) (post0 : List Addr) (h0 : Heap) (n0 : Nat) (wT : (Jvm.Cond.instantiable "com/example/tributary/tributary/merge/Tree" 18).before a0 Z = true) (SEM : Sta Z h0 "java/util/ImmutableCollections" "EMPTY" "Ljava/lang/Object;" (.ref em)) (nsD : ∀ x ∈ [r, ta, tb, tc], ∀ c : Cell, h0[x]? = some c → c.vm.isStatics = false) (hDN : ∀ x ∈ [r, ta, tb, tc], x < h0.size) (hnD : ∀ x ∈ [r, ta, tb, tc], n0 ≤ x) {p e s m below meth c s₁} (Bd : BodyLoose p l own_y11 (head1 (Jvm.Cond.code own_y11 prog_45_method_5_code 5 (some (.object "java/util/List")) :: ws) (⟨5, 4, 20, 100⟩ : Room)) prog_45_method_5_code 5 (some (.object "java/util/List")) e s m #[(.ref r)] below meth c s₁) (hZ : Z.Warmed39 s.vm) (hml : c.maxLocals = 5) :
    ∀ (post : List Addr) (vis : List Addr) (stk : List Addr) (f : Addr → Int32) (mo : Int32) (ms : Int32) (s3 : Slot) (s4 : Slot) (b3 : Addr) (br9 : Addr) (kr9 : ClassId) (b13 : Addr) (br21 : Addr) (kr21 : ClassId) (Tc : State) (Lc0 : List Loc) (hhc : Heap) (Xc : Stand p l e (⟨5, 4, 20, 100⟩ : Room) s m #[(.ref r)] below meth c Tc Lc0 4 20) (ec : Tc.heap = hhc) (Nc : Fr n0 Lc0) (Zc : n0 ≤ hhc.size) (prec : ∀ t, Steps p.tables e below (Tc.setTop (mkF m 26 #[own_r r, own_r b3, own_r b13, s3, s4] [])) t → Steps p.tables e below (s₁.setTop (entryFrame m #[(.ref r)] 5)) t) (fc1_0 : Exa Z hhc b3 "java/util/ArrayList") (fc1_1 : Fld Z hhc b3 "java/util/AbstractList" "modCount" "I" (.int mo)) (fc1_2 : Fld Z hhc b3 "java/util/ArrayList" "elementData" "[Ljava/lang/Object;" (.ref br9)) (fc1_3 : Fld Z hhc b3 "java/util/ArrayList" "size" "I" (.int (Int32.ofNat vis.length))) (fc1_4 : Arv Z hhc br9 kr9 (.object "java/lang/Object") (4 : Int32) (List.map Value.ref vis) .null) (fc1_5 : Exa Z hhc b13 "java/util/ArrayList") (fc1_6 : Fld Z hhc b13 "java/util/AbstractList" "modCount" "I" (.int ms)) (fc1_7 : Fld Z hhc b13 "java/util/ArrayList" "elementData" "[Ljava/lang/Object;" (.ref br21)) (fc1_8 : Fld Z hhc b13 "java/util/ArrayList" "size" "I" (.int (Int32.ofNat stk.length))) (fc1_9 : Arv Z hhc br21 kr21 (.object "java/lang/Object") (10 : Int32) (List.map Value.ref stk) .null) (ne_b3_br9 : b3 ≠ br9) (ne_b3_b13 : b3 ≠ b13) (ne_br9_b13 : br9 ≠ b13) (ne_b3_br21 : b3 ≠ br21) (ne_br9_br21 : br9 ≠ br21) (ne_b13_br21 : b13 ≠ br21) (g_b3 : n0 ≤ b3) (sz_b3 : h0.size ≤ b3) (g_br9 : n0 ≤ br9) (sz_br9 : h0.size ≤ br9) (g_b13 : n0 ≤ b13) (sz_b13 : h0.size ≤ b13) (g_br21 : n0 ≤ br21) (sz_br21 : h0.size ≤ br21) (Kk : Keep h0 hhc [r, ta, tb, tc]) (Inv : own_Inv Z hhc em h0.size [r, ta, tb, tc] K S f) (hok : own_ok [r, ta, tb, tc] K post stk) (hfin : own_fin post0 0 f0 = own_fin post (Int32.ofNat vis.length) f) (hvl : vis.length + post.length ≤ 4) (Oo : Ovr Z kr9 "java/lang/Object") (Os : Ovr Z kr21 "java/lang/Object") (hs3 : s3 = .unset ∨ ∃ x, s3 = own_r x) (hs4 : s4 = .unset ∨ ∃ x, s4 = own_i x),
    ∃ s₂ o, Steps p.tables e below (s₁.setTop (entryFrame m #[(.ref r)] 5)) s₂ ∧ s₂.status = .running ∧ Ended s₂ below o ∧ ∃ v L, o = .returned v ∧ Q_idx Z r ta tb tc em de kd K S f0 post0 h0 n0 v s₂.heap L ∧ FrameEnd s o s₂ L (⟨5, 4, 20, 100⟩ : Room).cells (⟨5, 4, 20, 100⟩ : Room).slots := by
  have hx := Bd.exec
  have hby := Bd.bytes
  have hown : s.vm.findClass "com/example/tributary/tributary/merge/Tree" = some m.cls := findClass_of_methodNamed Bd.named
  have hnm := (name_of_methodNamed Bd.named Bd.method).1
  intro post
  induction post with
  | nil =>
    intro vis stk f mo ms s3 s4 b3 br9 kr9 b13 br21 kr21 Tc Lc0 hhc Xc ec Nc Zc prec fc1_0 fc1_1 fc1_2 fc1_3 fc1_4 fc1_5 fc1_6 fc1_7 fc1_8 fc1_9 ne_b3_br9 ne_b3_b13 ne_br9_b13 ne_b3_br21 ne_br9_br21 ne_b13_br21 g_b3 sz_b3 g_br9 sz_br9 g_b13 sz_b13 g_br21 sz_br21 Kk Inv hok hfin hvl Oo Os hs3 hs4
    have hs0 : stk = [] := hok
    subst hs0
    have pre25 : own_G p e below Tc s₁ _ _ := fun t k => prec t (by
      refine XS.aloadN Xc.here hx rfl (hb hby didx_26) rfl rfl ?_
      exact k)
    obtain ⟨cq26, kq26, q26a, q26b, q26c⟩ := isOf hZ ec fc1_5
    obtain ⟨_, _, ⟨T26, L26, kk26, nn26⟩, -, X26, ⟨Lc26, hQ26, l26, y26, z26⟩, st26⟩ := Xc.virtualBack hx (y := own_y7) (z := own_y7) hown (mvT hZ (own_h hw 307 rfl)) (mvT hZ (own_h hw 308 rfl)) (notFace_of_selects (args := #[]) (mvT hZ (own_h hw 309 rfl))) (mvT hZ (own_h hw 309 rfl)) (mvT hZ (own_h hw 74 rfl)) (by decide) (backOf (W := 0) (rm_emp l Z a0 hw [] b13 (Int32.ofNat ([] : List Addr).length) hhc n0 Zc fc1_8) hZ (own_h hw 78 rfl) (own_h hw 3 rfl) (by decide) (by decide)) q26a q26c (g := (mkF m 27 #[own_r r, own_r b3, own_r b13, s3, s4] [(.ref b13)])) rfl (by rw [hml]; rfl) (Steps.refl _) (argsL := []) (rest := []) (lenOf pd___Z rfl) rfl (by show 2 * 0 + _ ≤ _; exact Nat.le_of_eq rfl) (hb hby didx_27) (fun _ _ => ⟨rfl, ec, (by decide : 4 + 0 ≤ _), (by decide : 20 + 0 ≤ _)⟩)
    dsimp only [Pt.U, Pt.locs, Pt.cells, Pt.slots] at X26 l26 y26 z26 st26 hQ26
    subst l26 y26 z26
    obtain ⟨rfl, N26q, eq26⟩ := hQ26
    have N26 := Fr.app Nc N26q
    have pre27 : own_G p e below T26 s₁ _ _ := fun t k => pre25 t (by
      refine st26.trans ?_
      show Steps p.tables e below (T26.setTop (mkF m 30 #[own_r r, own_r b3, own_r b13, s3, s4] [(.int (own_em (Int32.ofNat ([] : List Addr).length)))])) _
      rw [show own_em (Int32.ofNat ([] : List Addr).length) = (1 : Int32) from by decide]
      refine XS.ifYes X26.here hx rfl (pc0 := 30) (pc' := 125) rfl (hb hby didx_30) rfl (XT.i0_ne_t (by decide)) (by decide) (by decide) ?_
      refine XS.aloadN X26.here hx rfl (hb hby didx_125) rfl rfl ?_
      exact k)
    obtain ⟨fs, hr, hrun, hended, hW, hsame⟩ := X26.leave (v := some (.ref b3)) (fun h => by rw [Bd.returns] at h; cases h)
    refine ⟨_, _, pre27 _ ?_, hrun, hended, _, _, rfl, ?_, ⟨_, rfl⟩, hW, hsame.mono (by decide) (by decide)⟩
    · show Steps p.tables e below (T26.setTop (mkF m 126 #[own_r r, own_r b3, own_r b13, s3, s4] [(.ref b3)])) _
      jvm_step X26.here [X26.here.top, hx, (hb hby didx_126), X26.method', Bd.returns, Value.isRef, FieldType.isReference]
      first | (intro acts; rw [hr _ acts rfl rfl rfl]) | rw [hr _ _ rfl rfl rfl]
      exact Steps.refl _
    · show Q_idx Z r ta tb tc em de kd K S f0 post0 h0 n0 _ T26.heap _
      rw [eq26]
      exact ⟨b3, rfl, N26, Kk, by rw [hfin]; exact Inv⟩
  | cons ch post ih =>
    intro vis stk f mo ms s3 s4 b3 br9 kr9 b13 br21 kr21 Tc Lc0 hhc Xc ec Nc Zc prec fc1_0 fc1_1 fc1_2 fc1_3 fc1_4 fc1_5 fc1_6 fc1_7 fc1_8 fc1_9 ne_b3_br9 ne_b3_b13 ne_br9_b13 ne_b3_br21 ne_br9_br21 ne_b13_br21 g_b3 sz_b3 g_br9 sz_br9 g_b13 sz_b13 g_br21 sz_br21 Kk Inv hok hfin hvl Oo Os hs3 hs4
    obtain ⟨sk0, hstk, hch, hkk, hlen, hok2⟩ := hok
    subst hstk
    have hvl3 : vis.length ≤ 3 := by have q := hvl; rw [List.length_cons] at q; omega
    obtain ⟨r1, r2, r3, r4, r5⟩ := own_rm (x := ch) (sk0 := sk0) (by omega)
    obtain ⟨o1, o2, o3, o4⟩ := own_ad4 (x := ch) hvl3
    have Vst : Arv Z hhc br21 kr21 (.object "java/lang/Object") (10 : Int32) ((List.map Value.ref sk0) ++ [Value.ref ch]) .null := by rw [← own_ma]; exact fc1_9
    obtain ⟨Ec, ⟨lc, Gc, Kd⟩, Sz, Pc, vc, Qc⟩ := Inv ch hch
    have hcN := hDN ch hch
    have g_ch := hnD ch hch
    have ne_ch_b3 : ch ≠ b3 := Nat.ne_of_lt (Nat.lt_of_lt_of_le hcN sz_b3)
    have ne_ch_br9 : ch ≠ br9 := Nat.ne_of_lt (Nat.lt_of_lt_of_le hcN sz_br9)
    have ne_ch_b13 : ch ≠ b13 := Nat.ne_of_lt (Nat.lt_of_lt_of_le hcN sz_b13)
    have ne_ch_br21 : ch ≠ br21 := Nat.ne_of_lt (Nat.lt_of_lt_of_le hcN sz_br21)
    have Ki : Keep hhc hhc [ch, b3, br9, b13, br21] := Keep.refl _ _
    have pre28 : own_G p e below Tc s₁ _ _ := fun t k => prec t (by
      refine XS.aloadN Xc.here hx rfl (hb hby didx_26) rfl rfl ?_
      exact k)
    obtain ⟨cq29, kq29, q29a, q29b, q29c⟩ := isOf hZ ec fc1_5
    obtain ⟨_, _, ⟨T29, L29, kk29, nn29⟩, -, X29, ⟨Lc29, hQ29, l29, y29, z29⟩, st29⟩ := Xc.virtualBack hx (y := own_y7) (z := own_y7) hown (mvT hZ (own_h hw 307 rfl)) (mvT hZ (own_h hw 308 rfl)) (notFace_of_selects (args := #[]) (mvT hZ (own_h hw 309 rfl))) (mvT hZ (own_h hw 309 rfl)) (mvT hZ (own_h hw 74 rfl)) (by decide) (backOf (W := 0) (rm_emp l Z a0 hw [] b13 (Int32.ofNat (sk0 ++ [ch]).length) hhc n0 Zc fc1_8) hZ (own_h hw 78 rfl) (own_h hw 3 rfl) (by decide) (by decide)) q29a q29c (g := (mkF m 27 #[own_r r, own_r b3, own_r b13, s3, s4] [(.ref b13)])) rfl (by rw [hml]; rfl) (Steps.refl _) (argsL := []) (rest := []) (lenOf pd___Z rfl) rfl (by show 2 * 0 + _ ≤ _; exact Nat.le_of_eq rfl) (hb hby didx_27) (fun _ _ => ⟨rfl, ec, (by decide : 4 + 0 ≤ _), (by decide : 20 + 0 ≤ _)⟩)
    dsimp only [Pt.U, Pt.locs, Pt.cells, Pt.slots] at X29 l29 y29 z29 st29 hQ29
    subst l29 y29 z29
    obtain ⟨rfl, N29q, eq29⟩ := hQ29
    have N29 := Fr.app Nc N29q
    clear q29a q29b q29c N29q
    have pre30 : own_G p e below T29 s₁ _ _ := fun t k => pre28 t (by
      refine st29.trans ?_
      show Steps p.tables e below (T29.setTop (mkF m 30 #[own_r r, own_r b3, own_r b13, s3, s4] [(.int (own_em (Int32.ofNat (sk0 ++ [ch]).length)))])) _
      rw [r1]
      refine XS.ifNo X29.here hx rfl (hb hby didx_30) rfl (XT.i0_ne_f rfl) ?_
      refine XS.aloadN X29.here hx rfl (hb hby didx_33) rfl rfl ?_
      refine XS.aloadN X29.here hx rfl (hb hby didx_34) rfl rfl ?_
      exact k)
    obtain ⟨cq31, kq31, q31a, q31b, q31c⟩ := isOf hZ eq29 fc1_5
    obtain ⟨_, _, ⟨T31, L31, kk31, nn31⟩, -, X31, ⟨Lc31, hQ31, l31, y31, z31⟩, st31⟩ := X29.virtualBack hx (y := own_y12) (z := own_y12) hown (mvT hZ (own_h hw 310 rfl)) (mvT hZ (own_h hw 311 rfl)) (notFace_of_selects (args := #[]) (mvT hZ (own_h hw 313 rfl))) (mvT hZ (own_h hw 313 rfl)) (mvT hZ (own_h hw 312 rfl)) (by decide) (backOf (W := 1) (rm_asz l Z a0 hw [] b13 (Int32.ofNat (sk0 ++ [ch]).length) hhc n0 Zc fc1_8) hZ (own_h hw 314 rfl) (own_h hw 3 rfl) (by decide) (by decide)) q31a q31c (g := (mkF m 35 #[own_r r, own_r b3, own_r b13, s3, s4] [(.ref b13), (.ref b13)])) rfl (by rw [hml]; rfl) (Steps.refl _) (argsL := []) (rest := [(.ref b13)]) (lenOf pd___I rfl) rfl (by show 2 * 0 + _ ≤ _; exact Nat.le_of_eq rfl) (hb hby didx_35) (fun _ _ => ⟨rfl, eq29, (by decide : 4 + 0 ≤ _), (by decide : 20 + 0 ≤ _)⟩)
    dsimp only [Pt.U, Pt.locs, Pt.cells, Pt.slots] at X31 l31 y31 z31 st31 hQ31
    subst l31 y31 z31
    obtain ⟨rfl, N31q, eq31⟩ := hQ31
    have N31 := Fr.app N29 N31q
    clear pre28 X29 st29 eq29 N29 q31a q31b q31c N31q
    have pre32 : own_G p e below T31 s₁ _ _ := fun t k => pre30 t (by
      refine st31.trans ?_
      refine XS.iconst X31.here hx rfl (hb hby didx_38) ?_
      refine XS.isub X31.here hx rfl (hb hby didx_39) rfl ?_
      show Steps p.tables e below (T31.setTop (mkF m 40 #[own_r r, own_r b3, own_r b13, s3, s4] [(.int ((Int32.ofNat (sk0 ++ [ch]).length) - (1 : Int32))), (.ref b13)])) _
      rw [r2]
      exact k)
    obtain ⟨cq33, kq33, q33a, q33b, q33c⟩ := isOf hZ eq31 fc1_5
    obtain ⟨_, _, ⟨T33, L33, kk33, nn33⟩, -, X33, ⟨Lc33, hQ33, l33, y33, z33⟩, st33⟩ := X31.virtualBack hx (y := own_y25) (z := own_y25) hown (mvT hZ (own_h hw 315 rfl)) (mvT hZ (own_h hw 316 rfl)) (notFace_of_selects (args := #[]) (mvT hZ (own_h hw 318 rfl))) (mvT hZ (own_h hw 318 rfl)) (mvT hZ (own_h hw 317 rfl)) (by decide) (backOf (W := 0) (rm_rem l Z a0 hw [] b13 ch br21 ms (Int32.ofNat (sk0 ++ [ch]).length) (Int32.ofNat sk0.length) (10 : Int32) kr21 (List.map Value.ref sk0) hhc n0 Zc fc1_5 fc1_6 fc1_7 fc1_8 Vst g_b13 g_br21 ne_b13_br21 r3 r4 r2 r5) hZ (own_h hw 319 rfl) (own_h hw 3 rfl) (by decide) (by decide)) q33a q33c (g := (mkF m 40 #[own_r r, own_r b3, own_r b13, s3, s4] [(.int (Int32.ofNat sk0.length)), (.ref b13)])) rfl (by rw [hml]; rfl) (Steps.refl _) (argsL := [(.int (Int32.ofNat sk0.length))]) (rest := []) (lenOf pd__I_Ljava_lang_Object_ rfl) rfl (by show 2 * 0 + _ ≤ _; exact Nat.le_of_eq rfl) (hb hby didx_40) (fun _ _ => ⟨rfl, eq31, (by decide : 4 + 0 ≤ _), (by decide : 20 + 0 ≤ _)⟩)
    dsimp only [Pt.U, Pt.locs, Pt.cells, Pt.slots] at X33 l33 y33 z33 st33 hQ33
    subst l33 y33 z33
    obtain ⟨rfl, N33q, Kc33, Fm33, Fe33, Fz33, Va33⟩ := hQ33
    have N33 := Fr.app N31 N33q
    have f34_0 := fc1_0.keep Kc33
    have f34_1 := fc1_1.keep Kc33 (own_nm2 ne_b3_b13 ne_b3_br21)
    have f34_2 := fc1_2.keep Kc33 (own_nm2 ne_b3_b13 ne_b3_br21)
    have f34_3 := fc1_3.keep Kc33 (own_nm2 ne_b3_b13 ne_b3_br21)
    have f34_4 := fc1_4.keep Kc33 (own_nm2 ne_br9_b13 ne_br9_br21)
    have f34_5 := fc1_5.keep Kc33
    have f34_10 := Ec.keep Kc33
    have f34_11 := Gc.keep Kc33 (own_nm2 ne_ch_b13 ne_ch_br21)
    have f34_12 := Sz.keep Kc33 (own_nm2 ne_ch_b13 ne_ch_br21)
    have f34_13 := Pc.keep Kc33 (own_nm2 ne_ch_b13 ne_ch_br21)
    have f34_14 := Qc.keep Kc33 (own_nm2 ne_ch_b13 ne_ch_br21)
    have K35 := Kk.trans Kc33 (by intro x hx; simp only [List.mem_cons, List.not_mem_nil, or_false] at hx; rcases hx with rfl | rfl; exact (Or.inr sz_b13); exact (Or.inr sz_br21))
    have K36 := Ki.trans Kc33 (by intro x hx; simp only [List.mem_cons, List.not_mem_nil, or_false] at hx; rcases hx with rfl | rfl; exact (Or.inl (List.mem_of_getElem? (i := 3) rfl)); exact (Or.inl (List.mem_of_getElem? (i := 4) rfl)))
    have Z33 : n0 ≤ T33.heap.size := Nat.le_trans Zc Kc33.1
    have e33 : T33.heap = T33.heap := rfl
    clear pre30 X31 st31 eq31 N31 q33a q33b q33c N33q Kc33
    have pre37 : own_G p e below T33 s₁ _ _ := fun t k => pre32 t (by
      refine st33.trans ?_
      exact k)
    obtain ⟨T38, X38, e38, st38⟩ := castY X33 hx hZ hown (own_h hw 295 rfl) e33 (Ins.of_exa f34_10 (own_h hw 296 rfl)) (g := (mkF m 43 #[own_r r, own_r b3, own_r b13, s3, s4] [(.ref ch)])) rfl rfl (hb hby didx_43)
    have pre39 : ∀ t, Steps p.tables e below (T38.setTop (mkF m 49 #[own_r r, own_r b3, own_r b13, own_r ch, s4] [(.ref b3), (.ref ch)])) t → Steps p.tables e below (s₁.setTop (entryFrame m #[(.ref r)] 5)) t := fun t k => pre37 t (by
      refine st38 _ ?_
      refine XS.astoreN X38.here hx rfl (hb hby didx_46) rfl rfl (l' := #[own_r r, own_r b3, own_r b13, own_r ch, s4]) (by rcases hs3 with rfl | ⟨_, rfl⟩ <;> rfl) ?_
      refine XS.aloadN X38.here hx rfl (hb hby didx_47) rfl rfl ?_
      refine XS.aloadN X38.here hx rfl (hb hby didx_48) rfl rfl ?_
      exact k)
    obtain ⟨cq40, kq40, q40a, q40b, q40c⟩ := isOf hZ e38 f34_0
    obtain ⟨_, _, ⟨T40, L40, kk40, nn40⟩, -, X40, ⟨Lc40, hQ40, l40, y40, z40⟩, st40⟩ := X38.virtualBack hx (y := own_y12) (z := own_y12) hown (mvT hZ (own_h hw 310 rfl)) (mvT hZ (own_h hw 311 rfl)) (notFace_of_selects (args := #[]) (mvT hZ (own_h hw 313 rfl))) (mvT hZ (own_h hw 313 rfl)) (mvT hZ (own_h hw 312 rfl)) (by decide) (backOf (W := 1) (rm_asz l Z a0 hw [] b3 (Int32.ofNat vis.length) T33.heap n0 Z33 f34_3) hZ (own_h hw 314 rfl) (own_h hw 3 rfl) (by decide) (by decide)) q40a q40c (g := (mkF m 49 #[own_r r, own_r b3, own_r b13, own_r ch, s4] [(.ref b3), (.ref ch)])) rfl (by rw [hml]; rfl) (Steps.refl _) (argsL := []) (rest := [(.ref ch)]) (lenOf pd___I rfl) rfl (by show 2 * 0 + _ ≤ _; exact Nat.le_of_eq rfl) (hb hby didx_49) (fun _ _ => ⟨rfl, e38, (by decide : 4 + 0 ≤ _), (by decide : 20 + 0 ≤ _)⟩)
    dsimp only [Pt.U, Pt.locs, Pt.cells, Pt.slots] at X40 l40 y40 z40 st40 hQ40
    subst l40 y40 z40
    obtain ⟨rfl, N40q, eq40⟩ := hQ40
    have N40 := Fr.app N33 N40q
    clear pre32 X33 st33 N33 e33 pre37 X38 e38 st38 q40a q40b q40c N40q
    have pre41 : own_G p e below T40 s₁ _ _ := fun t k => pre39 t (by
      refine st40.trans ?_
      exact k)
    obtain ⟨T42, h42, X42, e42, W42, st42⟩ := putF X40 hx hZ hown (host := "") (Or.inl (own_h hw 329 rfl)) Via.refl eq40 f34_13 f34_10 (Or.inl (own_h hw 330 rfl)) (own_h hw 32 rfl) (ty := .int) (by decide) rfl rfl (g := (mkF m 52 #[own_r r, own_r b3, own_r b13, own_r ch, s4] [(.int (Int32.ofNat vis.length)), (.ref ch)])) rfl rfl (hb hby didx_52)
    have F42 := f34_13.same W42
    have N42 := Fr.snoc X42 N40 g_ch
    have f43_0 := f34_0.wr W42
    have f43_1 := f34_1.other W42 (Or.inl ne_ch_b3.symm)
    have f43_2 := f34_2.other W42 (Or.inl ne_ch_b3.symm)
    have f43_3 := f34_3.other W42 (Or.inl ne_ch_b3.symm)
    have f43_4 := f34_4.other W42 ne_ch_br9.symm
    have f43_5 := f34_5.wr W42
    have f43_6 := f34_10.wr W42
    have f43_7 := f34_11.other W42 (Or.inr (own_sn (own_l100 hw) (own_l330 hw) (by decide)))
    have f43_8 := f34_12.other W42 (Or.inr (own_sn (own_l185 hw) (own_l330 hw) (by decide)))
    have f43_10 := f34_14.other W42 (Or.inr (own_sn (own_l349 hw) (own_l330 hw) (by decide)))
    have f43_11 := Fm33.other W42 (Or.inl ne_ch_b13.symm)
    have f43_12 := Fe33.other W42 (Or.inl ne_ch_b13.symm)
    have f43_13 := Fz33.other W42 (Or.inl ne_ch_b13.symm)
    have f43_14 := Va33.other W42 ne_ch_br21.symm
    have K44 := K35.wr W42 (Or.inl hch)
    have K45 := K36.wr W42 (Or.inl (List.mem_of_getElem? (i := 0) rfl))
    have Z42 : n0 ≤ h42.size := Nat.le_trans Z33 (Keep.of_wr W42).1
    have pre46 : own_G p e below T42 s₁ _ _ := fun t k => pre41 t (by
      refine st42 _ ?_
      refine XS.aloadN X42.here hx rfl (hb hby didx_55) rfl rfl ?_
      refine XS.aloadN X42.here hx rfl (hb hby didx_56) rfl rfl ?_
      exact k)
    obtain ⟨cq47, kq47, q47a, q47b, q47c⟩ := isOf hZ e42 f43_0
    obtain ⟨_, _, ⟨T47, L47, kk47, nn47⟩, -, X47, ⟨Lc47, hQ47, l47, y47, z47⟩, st47⟩ := X42.virtualBack hx (y := own_y1) (z := own_y1) hown (mvT hZ (own_h hw 306 rfl)) (mvT hZ (own_h hw 189 rfl)) (notFace_of_selects (args := #[]) (mvT hZ (own_h hw 191 rfl))) (mvT hZ (own_h hw 191 rfl)) (mvT hZ (own_h hw 190 rfl)) (by decide) (backOf (W := 0) (rm_adr l Z a0 hw [] b3 ch br9 mo (Int32.ofNat vis.length) (Int32.ofNat (vis ++ [ch]).length) (4 : Int32) kr9 (List.map Value.ref vis) h42 n0 Z42 f43_0 f43_1 f43_2 f43_3 f43_4 Oo f43_6 g_b3 g_br9 ne_b3_br9 o1 o2 o3 o4) hZ (own_h hw 192 rfl) (own_h hw 3 rfl) (by decide) (by decide)) q47a q47c (g := (mkF m 57 #[own_r r, own_r b3, own_r b13, own_r ch, s4] [(.ref ch), (.ref b3)])) rfl (by rw [hml]; rfl) (Steps.refl _) (argsL := [(.ref ch)]) (rest := []) (lenOf pd__Ljava_lang_Object__Z rfl) rfl (by show 2 * 0 + _ ≤ _; exact Nat.le_of_eq rfl) (hb hby didx_57) (fun _ _ => ⟨rfl, e42, (by decide : 4 + 0 ≤ _), (by decide : 20 + 0 ≤ _)⟩)
    dsimp only [Pt.U, Pt.locs, Pt.cells, Pt.slots] at X47 l47 y47 z47 st47 hQ47
    subst l47 y47 z47
    obtain ⟨rfl, N47q, Kc47, Fm47, Fe47, Fz47, Va47⟩ := hQ47
    have N47 := Fr.app N42 N47q
    have f48_0 := f43_0.keep Kc47
    have f48_5 := f43_5.keep Kc47
    have f48_6 := f43_6.keep Kc47
    have f48_7 := f43_7.keep Kc47 (own_nm2 ne_ch_b3 ne_ch_br9)
    have f48_8 := f43_8.keep Kc47 (own_nm2 ne_ch_b3 ne_ch_br9)
    have f48_9 := f43_10.keep Kc47 (own_nm2 ne_ch_b3 ne_ch_br9)
    have f48_10 := f43_11.keep Kc47 (own_nm2 ne_b3_b13.symm ne_br9_b13.symm)
    have f48_11 := f43_12.keep Kc47 (own_nm2 ne_b3_b13.symm ne_br9_b13.symm)
    have f48_12 := f43_13.keep Kc47 (own_nm2 ne_b3_b13.symm ne_br9_b13.symm)
    have f48_13 := f43_14.keep Kc47 (own_nm2 ne_b3_br21.symm ne_br9_br21.symm)
    have f48_14 := F42.keep Kc47 (own_nm2 ne_ch_b3 ne_ch_br9)
    have K49 := K44.trans Kc47 (by intro x hx; simp only [List.mem_cons, List.not_mem_nil, or_false] at hx; rcases hx with rfl | rfl; exact (Or.inr sz_b3); exact (Or.inr sz_br9))
    have K50 := K45.trans Kc47 (by intro x hx; simp only [List.mem_cons, List.not_mem_nil, or_false] at hx; rcases hx with rfl | rfl; exact (Or.inl (List.mem_of_getElem? (i := 1) rfl)); exact (Or.inl (List.mem_of_getElem? (i := 2) rfl)))
    have Z47 : n0 ≤ T47.heap.size := Nat.le_trans Z42 Kc47.1
    have e47 : T47.heap = T47.heap := rfl
    clear f34_0 f34_1 f34_2 f34_3 f34_4 f34_5 f34_10 f34_11 f34_12 f34_13 f34_14 K35 K36 Z33 pre39 X40 st40 eq40 N40 pre41 X42 e42 W42 st42 F42 N42 f43_0 f43_1 f43_2 f43_3 f43_4 f43_5 f43_6 f43_7 f43_8 f43_10 f43_11 f43_12 f43_13 f43_14 K44 K45 Z42 q47a q47b q47c N47q Kc47
    have Vo : Arv Z T47.heap br9 kr9 (.object "java/lang/Object") (4 : Int32) (List.map Value.ref (vis ++ [ch])) .null := by rw [own_ma]; exact Va47
    have pre51 : own_G p e below T47 s₁ _ _ := fun t k => pre46 t (by
      refine st47.trans ?_
      refine XT.pop X47.here hx rfl (hb hby didx_60) rfl rfl ?_
      refine XS.aloadN X47.here hx rfl (hb hby didx_61) rfl rfl ?_
      exact k)
    obtain ⟨T52, X52, e52, st52⟩ := getF X47 hx hZ hown (host := "") (Or.inl (own_h hw 99 rfl)) Via.refl e47 f48_7 (g := (mkF m 62 #[own_r r, own_r b3, own_r b13, own_r ch, s4] [(.ref ch)])) rfl rfl (hb hby didx_62)
    have pre53 : own_G p e below T52 s₁ _ _ := fun t k => pre51 t (by
      refine st52 _ ?_
      exact k)
    have qw : ∀ y ∈ [ch, b3, br9, b13, br21], y = ch ∨ h0.size ≤ y := (by intro y hy; simp only [List.mem_cons, List.not_mem_nil, or_false] at hy; rcases hy with rfl | rfl | rfl | rfl | rfl; exact Or.inl rfl; exact Or.inr sz_b3; exact Or.inr sz_br9; exact Or.inr sz_b13; exact Or.inr sz_br21)
    have Inv2 : own_Inv Z T47.heap em h0.size [r, ta, tb, tc] K S (own_upd f ch (Int32.ofNat vis.length)) := own_Inv_upd wT hDN Inv hch K50 qw f48_7 Kd f48_8 f48_14 (if_pos rfl) f48_9 (fun y hy => if_neg hy)
    have Kd2 := own_Kids_keep wT Kd K50 (fun y hy => by rcases qw y hy with h1 | h1; exact Or.inr (by rw [h1]; exact Ec); exact Or.inl h1)
    exact rs_idx_2 l Z a0 hw ws r ta tb tc em de kd K S f0 post0 h0 n0 vis post sk0 f mo ms s4 b3 b13 ch lc br21 kr21 br9 kr9 Bd hZ hml T47.heap X52 e52 N47 Z47 pre53 f48_0 f48_5 f48_6 f48_7 f48_10 f48_11 f48_12 f48_13 Fm47 Fe47 Fz47 Vo ne_b3_br9 ne_b3_b13 ne_br9_b13 ne_b3_br21 ne_br9_br21 ne_b13_br21 ne_ch_b3 ne_ch_br9 ne_ch_b13 ne_ch_br21 g_b3 sz_b3 g_br9 sz_br9 g_b13 sz_b13 g_br21 sz_br21 g_ch K49 wT SEM nsD hDN hnD Inv2 hch hkk hlen hok2 hfin hvl Oo Os hs4 o4 hcN Kd2 ih
theorem rm_idx (l : Launch) (Z : State) (a0 : Array Value) (hw : own_W a0 Z) (ws : List Jvm.Cond) (r ta tb tc em de : Addr) (kd : ClassId) (K : Addr → List Addr) (S f0 : Addr → Int32) (post0 : List Addr) (h0 : Heap) (n0 : Nat) (Z0 : n0 ≤ h0.size) (SDE : Sta Z h0 "java/util/ArrayList" "DEFAULTCAPACITY_EMPTY_ELEMENTDATA" "[Ljava/lang/Object;" (.ref de)) (DA : Arv Z h0 de kd (.object "java/lang/Object") (0 : Int32) [] .null) (SEM : Sta Z h0 "java/util/ImmutableCollections" "EMPTY" "Ljava/lang/Object;" (.ref em)) (Inv0 : own_Inv Z h0 em h0.size [r, ta, tb, tc] K S f0) (hS : S r = 4) (hok0 : own_ok [r, ta, tb, tc] K post0 [r]) (hpl : post0.length ≤ 4) (hnD : ∀ x ∈ [r, ta, tb, tc], n0 ≤ x)  :
    own_M l Z h0 ws own_y11 prog_45_method_5_code 5 (some (.object "java/util/List")) (⟨5, 4, 20, 100⟩ : Room) #[(.ref r)] (Q_idx Z r ta tb tc em de kd K S f0 post0 h0 n0) := by
  refine MetFree.of_bodySF (plainFor_of_name pn_mxj) hisR ?_
  intro p e s m args below meth c s₁ Bd hml0 hP hK
  obtain ⟨rfl, hZ, hh⟩ := hP
  have hx := Bd.exec
  have hby := Bd.bytes
  have hml : c.maxLocals = 5 := hml0
  have hown : s.vm.findClass "com/example/tributary/tributary/merge/Tree" = some m.cls := findClass_of_methodNamed Bd.named
  have hnm := (name_of_methodNamed Bd.named Bd.method).1
  have X0 : Stand p l e (⟨5, 4, 20, 100⟩ : Room) s m #[(.ref r)] below meth c s₁ [] 0 0 := Stand.of_body Bd
  have e0 : s₁.heap = h0 := by rw [← hh, Bd.state]; rfl
  have N0 := Fr.nil n0
  have pre0 : ∀ t, Steps p.tables e below (s₁.setTop (mkF m 0 #[own_r r, .unset, .unset, .unset, .unset] [])) t → Steps p.tables e below (s₁.setTop (entryFrame m #[(.ref r)] 5)) t := fun t k => castTop (ef_idx m r) k
  have wT := (own_h hw 32 rfl)
  have hDN : ∀ x ∈ [r, ta, tb, tc], x < h0.size := fun x hx => (Inv0 x hx).1.lt
  have nsD : ∀ x ∈ [r, ta, tb, tc], ∀ c : Cell, h0[x]? = some c → c.vm.isStatics = false := fun x hx => own_ns_exa (Inv0 x hx).1
  obtain ⟨Er, -, Sr, -⟩ := Inv0 r (List.mem_of_getElem? (i := 0) rfl)
  rw [hS] at Sr
  have K2 : Keep h0 h0 [] := Keep.refl h0 []
  obtain ⟨T3, h3, X3, e3, E3, A3, D3, -, st3⟩ := newO X0 hx hZ hown (own_h hw 301 rfl) (own_h hw 2 rfl) (own_h hw 3 rfl) e0 (g := (mkF m 0 #[own_r r, .unset, .unset, .unset, .unset] [])) rfl (hb hby didx_0) (by decide) (by decide)
  obtain ⟨b3, g3⟩ : ∃ z, z = h0.size := ⟨_, rfl⟩
  rw [← g3] at A3 D3 st3
  have ne_r_b3 : r ≠ b3 := Nat.ne_of_lt (Nat.lt_of_lt_of_eq Er.lt g3.symm)
  have ne_de_b3 : de ≠ b3 := Nat.ne_of_lt (Nat.lt_of_lt_of_eq DA.lt g3.symm)
  have g_b3 : n0 ≤ b3 := Nat.le_trans Z0 (Nat.le_of_eq g3.symm)
  have sz_b3 : h0.size ≤ b3 := Nat.le_trans K2.1 (Nat.le_of_eq g3.symm)
  have Z3 : n0 ≤ h3.size := Nat.le_trans Z0 E3.1
  have f4_0 := Er.ext E3
  have f4_1 := Sr.ext E3
  have f4_2 := SDE.ext E3
  have f4_3 := DA.ext E3
  have K5 := K2.ext E3
  have F3_modCount : Fld Z h3 b3 "java/util/AbstractList" "modCount" "I" (.int (0 : Int32)) := D3 (Or.inl (own_h hw 23 rfl)) (ty := .int) (by decide)
  have F3_elementData : Fld Z h3 b3 "java/util/ArrayList" "elementData" "[Ljava/lang/Object;" .null := D3 (Or.inl (own_h hw 26 rfl)) (ty := (.array (.object "java/lang/Object"))) (by decide)
  have F3_size : Fld Z h3 b3 "java/util/ArrayList" "size" "I" (.int (0 : Int32)) := D3 (Or.inl (own_h hw 80 rfl)) (ty := .int) (by decide)
  have pre6 : own_G p e below T3 s₁ _ _ := fun t k => pre0 t (by
    refine st3 _ ?_
    refine XS.dup X3.here hx rfl (hb hby didx_3) rfl rfl ?_
    refine XS.aloadN X3.here hx rfl (hb hby didx_4) rfl rfl ?_
    exact k)
  obtain ⟨T7, X7, e7, st7⟩ := getF X3 hx hZ hown (host := "") (Or.inl (own_h hw 184 rfl)) Via.refl e3 f4_1 (g := (mkF m 5 #[own_r r, .unset, .unset, .unset, .unset] [(.ref r), (.ref b3), (.ref b3)])) rfl rfl (hb hby didx_5)
  have pre8 : own_G p e below T7 s₁ _ _ := fun t k => pre6 t (by
    refine st7 _ ?_
    exact k)
  obtain ⟨_, _, ⟨T9, L9, kk9, nn9⟩, -, X9, ⟨Lc9, hQ9, l9, y9, z9⟩, st9⟩ := X7.specialBack hx (y := own_y34) rfl hown (mvT hZ (own_h hw 302 rfl)) (mvT hZ (own_h hw 303 rfl)) (mvT hZ (own_h hw 304 rfl)) (by decide) (backOf (W := 1) (rm_alc l Z a0 hw [] b3 (4 : Int32) h3 n0 Z3 A3 F3_modCount F3_elementData F3_size g_b3 (by decide) (by decide) (by decide)) hZ (own_h hw 304 rfl) (own_h hw 3 rfl) (by decide) (by decide)) (g := (mkF m 8 #[own_r r, .unset, .unset, .unset, .unset] [(.int (4 : Int32)), (.ref b3), (.ref b3)])) rfl (by rw [hml]; rfl) (Steps.refl _) (a := b3) (argsL := [(.int (4 : Int32))]) (rest := [(.ref b3)]) (lenOf pd__I_V rfl) rfl (by show 2 * 0 + _ ≤ _; exact Nat.le_of_eq rfl) (hb hby didx_8) (fun _ _ => ⟨rfl, e7, (by decide : 1 + 1 ≤ _), (by decide : 3 + 4 ≤ _)⟩)
  dsimp only [Pt.U, Pt.locs, Pt.cells, Pt.slots] at X9 l9 y9 z9 st9 hQ9
  subst l9 y9 z9
  obtain ⟨br9, kr9, rfl, N9q, Kc9, g_br9, sr9, Fm9, Fe9, Fz9, Vr9, Or9⟩ := hQ9
  have N9 := Fr.app N0 N9q
  have f10_0 := f4_0.keep Kc9
  have f10_1 := own_sta_keep f4_2 Kc9 (by intro x hx; simp only [List.mem_cons, List.not_mem_nil, or_false] at hx; rcases hx with rfl; exact own_ns_exa A3)
  have f10_2 := f4_3.keep Kc9 (own_nm1 ne_de_b3)
  have f10_3 := A3.keep Kc9
  have K11 := K5.trans Kc9 (fun x hx => by cases List.mem_singleton.mp hx; exact (Or.inr sz_b3))
  have Z9 : n0 ≤ T9.heap.size := Nat.le_trans Z3 Kc9.1
  have e9 : T9.heap = T9.heap := rfl
  have ne_r_br9 : r ≠ br9 := Nat.ne_of_lt (Nat.lt_of_lt_of_le f4_0.lt sr9)
  have ne_de_br9 : de ≠ br9 := Nat.ne_of_lt (Nat.lt_of_lt_of_le f4_3.lt sr9)
  have ne_b3_br9 : b3 ≠ br9 := Nat.ne_of_lt (Nat.lt_of_lt_of_le A3.lt sr9)
  have sz_br9 : h0.size ≤ br9 := Nat.le_trans K5.1 sr9
  have pre12 : own_G p e below T9 s₁ _ _ := fun t k => pre8 t (by
    refine st9.trans ?_
    refine XS.astoreN X9.here hx rfl (hb hby didx_11) rfl rfl (l' := #[own_r r, own_r b3, .unset, .unset, .unset]) rfl ?_
    exact k)
  obtain ⟨T13, h13, X13, e13, E13, A13, D13, -, st13⟩ := newO X9 hx hZ hown (own_h hw 301 rfl) (own_h hw 2 rfl) (own_h hw 3 rfl) e9 (g := (mkF m 12 #[own_r r, own_r b3, .unset, .unset, .unset] [])) rfl (hb hby didx_12) (by decide) (by decide)
  obtain ⟨b13, g13⟩ : ∃ z, z = T9.heap.size := ⟨_, rfl⟩
  rw [← g13] at A13 D13 st13
  have ne_r_b13 : r ≠ b13 := Nat.ne_of_lt (Nat.lt_of_lt_of_eq f10_0.lt g13.symm)
  have ne_de_b13 : de ≠ b13 := Nat.ne_of_lt (Nat.lt_of_lt_of_eq f10_2.lt g13.symm)
  have ne_b3_b13 : b3 ≠ b13 := Nat.ne_of_lt (Nat.lt_of_lt_of_eq f10_3.lt g13.symm)
  have ne_br9_b13 : br9 ≠ b13 := Nat.ne_of_lt (Nat.lt_of_lt_of_eq Vr9.lt g13.symm)
  have g_b13 : n0 ≤ b13 := Nat.le_trans Z9 (Nat.le_of_eq g13.symm)
  have sz_b13 : h0.size ≤ b13 := Nat.le_trans K11.1 (Nat.le_of_eq g13.symm)
  have Z13 : n0 ≤ h13.size := Nat.le_trans Z9 E13.1
  have f14_0 := f10_0.ext E13
  have f14_1 := f10_1.ext E13
  have f14_2 := f10_2.ext E13
  have f14_3 := f10_3.ext E13
  have f14_4 := Fm9.ext E13
  have f14_5 := Fe9.ext E13
  have f14_6 := Fz9.ext E13
  have f14_7 := Vr9.ext E13
  have K15 := K11.ext E13
  have F13_modCount : Fld Z h13 b13 "java/util/AbstractList" "modCount" "I" (.int (0 : Int32)) := D13 (Or.inl (own_h hw 23 rfl)) (ty := .int) (by decide)
  have F13_elementData : Fld Z h13 b13 "java/util/ArrayList" "elementData" "[Ljava/lang/Object;" .null := D13 (Or.inl (own_h hw 26 rfl)) (ty := (.array (.object "java/lang/Object"))) (by decide)
  have F13_size : Fld Z h13 b13 "java/util/ArrayList" "size" "I" (.int (0 : Int32)) := D13 (Or.inl (own_h hw 80 rfl)) (ty := .int) (by decide)
  have pre16 : own_G p e below T13 s₁ _ _ := fun t k => pre12 t (by
    refine st13 _ ?_
    refine XS.dup X13.here hx rfl (hb hby didx_15) rfl rfl ?_
    exact k)
  obtain ⟨_, _, ⟨T17, L17, kk17, nn17⟩, -, X17, ⟨Lc17, hQ17, l17, y17, z17⟩, st17⟩ := X13.specialBack hx (y := own_y3) rfl hown (mvT hZ (own_h hw 305 rfl)) (mvT hZ (own_h hw 5 rfl)) (mvT hZ (own_h hw 6 rfl)) (by decide) (backOf (W := 1) (rm_ali l Z a0 hw [] b13 de h13 n0 Z13 f14_1 A13 F13_modCount F13_elementData F13_size g_b13) hZ (own_h hw 6 rfl) (own_h hw 3 rfl) (by decide) (by decide)) (g := (mkF m 16 #[own_r r, own_r b3, .unset, .unset, .unset] [(.ref b13), (.ref b13)])) rfl (by rw [hml]; rfl) (Steps.refl _) (a := b13) (argsL := []) (rest := [(.ref b13)]) (lenOf pd___V rfl) rfl (by show 2 * 0 + _ ≤ _; exact Nat.le_of_eq rfl) (hb hby didx_16) (fun _ _ => ⟨rfl, e13, (by decide : 3 + 0 ≤ _), (by decide : 10 + 0 ≤ _)⟩)
  dsimp only [Pt.U, Pt.locs, Pt.cells, Pt.slots] at X17 l17 y17 z17 st17 hQ17
  subst l17 y17 z17
  obtain ⟨rfl, N17q, Kc17, Fm17, Fe17, Fz17⟩ := hQ17
  have N17 := Fr.app N9 N17q
  have f18_0 := f14_0.keep Kc17
  have f18_1 := own_sta_keep f14_1 Kc17 (by intro x hx; simp only [List.mem_cons, List.not_mem_nil, or_false] at hx; rcases hx with rfl; exact own_ns_exa A13)
  have f18_2 := f14_2.keep Kc17 (own_nm1 ne_de_b13)
  have f18_3 := f14_3.keep Kc17
  have f18_4 := f14_4.keep Kc17 (own_nm1 ne_b3_b13)
  have f18_5 := f14_5.keep Kc17 (own_nm1 ne_b3_b13)
  have f18_6 := f14_6.keep Kc17 (own_nm1 ne_b3_b13)
  have f18_7 := f14_7.keep Kc17 (own_nm1 ne_br9_b13)
  have f18_8 := A13.keep Kc17
  have K19 := K15.trans Kc17 (fun x hx => by cases List.mem_singleton.mp hx; exact (Or.inr sz_b13))
  have Z17 : n0 ≤ T17.heap.size := Nat.le_trans Z13 Kc17.1
  have e17 : T17.heap = T17.heap := rfl
  have pre20 : own_G p e below T17 s₁ _ _ := fun t k => pre16 t (by
    refine st17.trans ?_
    refine XS.astoreN X17.here hx rfl (hb hby didx_19) rfl rfl (l' := #[own_r r, own_r b3, own_r b13, .unset, .unset]) rfl ?_
    refine XS.aloadN X17.here hx rfl (hb hby didx_20) rfl rfl ?_
    refine XS.aloadN X17.here hx rfl (hb hby didx_21) rfl rfl ?_
    exact k)
  obtain ⟨cq21, kq21, q21a, q21b, q21c⟩ := isOf hZ e17 f18_8
  obtain ⟨_, _, ⟨T21, L21, kk21, nn21⟩, -, X21, ⟨Lc21, hQ21, l21, y21, z21⟩, st21⟩ := X17.virtualBack hx (y := own_y1) (z := own_y1) hown (mvT hZ (own_h hw 306 rfl)) (mvT hZ (own_h hw 189 rfl)) (notFace_of_selects (args := #[]) (mvT hZ (own_h hw 191 rfl))) (mvT hZ (own_h hw 191 rfl)) (mvT hZ (own_h hw 190 rfl)) (by decide) (backOf (W := 0) (rm_adg l Z a0 hw [] b13 r de (0 : Int32) kd T17.heap n0 Z17 f18_1 f18_8 Fm17 Fe17 Fz17 f18_0 f18_2 g_b13 ne_de_b13.symm) hZ (own_h hw 192 rfl) (own_h hw 3 rfl) (by decide) (by decide)) q21a q21c (g := (mkF m 22 #[own_r r, own_r b3, own_r b13, .unset, .unset] [(.ref r), (.ref b13)])) rfl (by rw [hml]; rfl) (Steps.refl _) (argsL := [(.ref r)]) (rest := []) (lenOf pd__Ljava_lang_Object__Z rfl) rfl (by show 2 * 0 + _ ≤ _; exact Nat.le_of_eq rfl) (hb hby didx_22) (fun _ _ => ⟨rfl, e17, (by decide : 3 + 1 ≤ _), (by decide : 10 + 10 ≤ _)⟩)
  dsimp only [Pt.U, Pt.locs, Pt.cells, Pt.slots] at X21 l21 y21 z21 st21 hQ21
  subst l21 y21 z21
  obtain ⟨br21, kr21, rfl, N21q, Kc21, g_br21, sr21, Fm21, Fe21, Fz21, Vr21, Or21, Ea21⟩ := hQ21
  have N21 := Fr.app N17 N21q
  have f22_0 := f18_0.keep Kc21
  have f22_1 := own_sta_keep f18_1 Kc21 (by intro x hx; simp only [List.mem_cons, List.not_mem_nil, or_false] at hx; rcases hx with rfl; exact own_ns_exa f18_8)
  have f22_2 := f18_2.keep Kc21 (own_nm1 ne_de_b13)
  have f22_3 := f18_3.keep Kc21
  have f22_4 := f18_4.keep Kc21 (own_nm1 ne_b3_b13)
  have f22_5 := f18_5.keep Kc21 (own_nm1 ne_b3_b13)
  have f22_6 := f18_6.keep Kc21 (own_nm1 ne_b3_b13)
  have f22_7 := f18_7.keep Kc21 (own_nm1 ne_br9_b13)
  have f22_8 := f18_8.keep Kc21
  have K23 := K19.trans Kc21 (fun x hx => by cases List.mem_singleton.mp hx; exact (Or.inr sz_b13))
  have Z21 : n0 ≤ T21.heap.size := Nat.le_trans Z17 Kc21.1
  have e21 : T21.heap = T21.heap := rfl
  have ne_r_br21 : r ≠ br21 := Nat.ne_of_lt (Nat.lt_of_lt_of_le f18_0.lt sr21)
  have ne_de_br21 : de ≠ br21 := Nat.ne_of_lt (Nat.lt_of_lt_of_le f18_2.lt sr21)
  have ne_b3_br21 : b3 ≠ br21 := Nat.ne_of_lt (Nat.lt_of_lt_of_le f18_3.lt sr21)
  have ne_br9_br21 : br9 ≠ br21 := Nat.ne_of_lt (Nat.lt_of_lt_of_le f18_7.lt sr21)
  have ne_b13_br21 : b13 ≠ br21 := Nat.ne_of_lt (Nat.lt_of_lt_of_le f18_8.lt sr21)
  have sz_br21 : h0.size ≤ br21 := Nat.le_trans K19.1 sr21
  have pre24 : own_G p e below T21 s₁ _ _ := fun t k => pre20 t (by
    refine st21.trans ?_
    refine XT.pop X21.here hx rfl (hb hby didx_25) rfl rfl ?_
    exact k)
  have KD := (Keep.refl h0 [r, ta, tb, tc]).trans K23 (fun x hx => by cases hx)
  have Inv1 := own_Inv_keep wT Inv0 K23
  exact rs_idx_1 l Z a0 hw ws r ta tb tc em de kd K S f0 post0 h0 n0 wT SEM nsD hDN hnD Bd hZ hml post0 ([]) ([r]) f0 ((0 : Int32)) (((0 : Int32) + (1 : Int32))) .unset .unset b3 br9 kr9 b13 br21 kr21 T21 _ T21.heap X21 e21 N21 Z21 pre24 f22_3 f22_4 f22_5 f22_6 f22_7 f22_8 Fm21 Fe21 Fz21 Vr21 ne_b3_br9 ne_b3_b13 ne_br9_b13 ne_b3_br21 ne_br9_br21 ne_b13_br21 g_b3 sz_b3 g_br9 sz_br9 g_b13 sz_b13 g_br21 sz_br21 KD Inv1 hok0 rfl ((by rw [List.length_nil, Nat.zero_add]; exact hpl)) Or9 Or21 (Or.inl rfl) (Or.inl rfl)
set_option linter.unusedSimpArgs false
def own_bk (pc : Int32) (c : Addr) : List Addr := if pc = 2 then [c] else []
def own_ak (pb pc w : Int32) (b c : Addr) : List Addr := if w = 0 then (if pb = 1 then (if pc = 1 then [b, c] else [b]) else if pc = 1 then [c] else []) else (if pc = 1 then (if pb = 1 then [c, b] else [c]) else if pb = 1 then [b] else [])
def own_rk (pb pc w : Int32) (a b c : Addr) : List Addr := if w = 0 then (if pb = 0 then (if pc = 0 then [a, b, c] else [a, b]) else if pc = 0 then [a, c] else [a]) else (if pc = 0 then (if pb = 0 then [c, b, a] else [c, a]) else if pb = 0 then [b, a] else [a])
def own_K (r a b : Addr) (rk ak bk : List Addr) (x : Addr) : List Addr := if x = r then rk else if x = a then ak else if x = b then bk else []
def own_S4 (r a b : Addr) (sr sa sb : Int32) (x : Addr) : Int32 := if x = r then sr else if x = a then sa else if x = b then sb else 1
def own_Sa (c : Addr) (sb : Int32) (x : Addr) : Int32 := if x = c then 1 else sb
def own_Sr (c b : Addr) (sb sa : Int32) (x : Addr) : Int32 := if x = c then 1 else if x = b then sb else sa
def own_at (r a b c : Addr) (x : Int32) : Addr := if x = 0 then r else if x = 1 then a else if x = 2 then b else c
def own_tab (v0 v1 v2 v3 x : Int32) : Int32 := if x = 0 then v0 else if x = 1 then v1 else if x = 2 then v2 else v3
theorem own_tabat {F : Addr → Int32} {r a b c : Addr} {v0 v1 v2 v3 : Int32} (h0 : F r = v0) (h1 : F a = v1) (h2 : F b = v2) (h3 : F c = v3) (x : Int32) : F (own_at r a b c x) = own_tab v0 v1 v2 v3 x := by
  unfold own_at own_tab
  by_cases q0 : x = 0
  · rw [if_pos q0, if_pos q0]; exact h0
  · rw [if_neg q0, if_neg q0]
    by_cases q1 : x = 1
    · rw [if_pos q1, if_pos q1]; exact h1
    · rw [if_neg q1, if_neg q1]
      by_cases q2 : x = 2
      · rw [if_pos q2, if_pos q2]; exact h2
      · rw [if_neg q2, if_neg q2]; exact h3
theorem own_okc {D : List Addr} {K : Addr → List Addr} {x : Addr} {post st0 kx stk : List Addr} (hx : x ∈ D) (e : K x = kx) (hk : ∀ y ∈ kx, y ∈ D ∧ y ≠ x) (hl : st0.length + kx.length ≤ 4) (hs : st0 ++ kx.reverse = stk) (h : own_ok D K post stk) : own_ok D K (x :: post) (st0 ++ [x]) :=
  ⟨st0, rfl, hx, by rw [e]; exact hk, by rw [e]; exact hl, by rw [e, hs]; exact h⟩
def own_Res (r a b c : Addr) (pb pc sb sa sr : Int32) (K : Addr → List Addr) : Prop := ∃ post0, own_ok [r, a, b, c] K post0 [r] ∧ post0.length ≤ 4 ∧ own_S4 r a b sr sa sb r = 4 ∧ ∀ x y, own_q4 x → own_q4 y → own_ct (own_fin post0 0 (fun _ => 0) (own_at r a b c x)) (own_S4 r a b sr sa sb (own_at r a b c x)) (own_fin post0 0 (fun _ => 0) (own_at r a b c y)) = own_anc x y pb pc
def own_N (r a b c : Addr) : Prop := (¬ r = a ∧ ¬ r = b ∧ ¬ r = c ∧ ¬ a = b ∧ ¬ a = c ∧ ¬ b = c) ∧ ¬ a = r ∧ ¬ b = r ∧ ¬ c = r ∧ ¬ b = a ∧ ¬ c = a ∧ ¬ c = b
theorem own_res {r a b c : Addr} {pb pc sb sa sr v1 v2 v3 : Int32} {K : Addr → List Addr} {post0 : List Addr} (n1 : ¬ r = a) (n2 : ¬ r = b) (n3 : ¬ r = c) (n4 : ¬ a = b) (n5 : ¬ a = c) (n6 : ¬ b = c)
    (hok : own_ok [r, a, b, c] K post0 [r]) (hl : post0.length ≤ 4) (hr : sr = 4) (f0 : own_fin post0 0 (fun _ => 0) r = 0) (f1 : own_fin post0 0 (fun _ => 0) a = v1) (f2 : own_fin post0 0 (fun _ => 0) b = v2) (f3 : own_fin post0 0 (fun _ => 0) c = v3)
    (H : ∀ x y, own_q4 x → own_q4 y → own_ct (own_tab 0 v1 v2 v3 x) (own_tab 4 sa sb 1 x) (own_tab 0 v1 v2 v3 y) = own_anc x y pb pc) : own_Res r a b c pb pc sb sa sr K := by
  refine ⟨post0, hok, hl, by rw [own_S4, if_pos rfl]; exact hr, fun x y hx hy => ?_⟩
  rw [own_tabat f0 f1 f2 f3 x, own_tabat f0 f1 f2 f3 y, own_tabat (F := own_S4 r a b sr sa sb) (v0 := 4) (v1 := sa) (v2 := sb) (v3 := 1) (by rw [own_S4, if_pos rfl]; exact hr) (by rw [own_S4, if_neg (fun q => n1 q.symm), if_pos rfl]) (by rw [own_S4, if_neg (fun q => n2 q.symm), if_neg (fun q => n4 q.symm), if_pos rfl]) (by rw [own_S4, if_neg (fun q => n3 q.symm), if_neg (fun q => n5 q.symm), if_neg (fun q => n6 q.symm)]) x]
  exact H x y hx hy

theorem own_c0000 {r a b c : Addr} {sb sa sr : Int32} (H : own_N r a b c) (hb : sb = 1) (ha : sa = 1) (hr : sr = 4) : own_Res r a b c 0 0 sb sa sr (own_K r a b [a, b, c] [] []) := by
  subst hb ha
  obtain ⟨⟨n1, n2, n3, n4, n5, n6⟩, m1, m2, m3, m4, m5, m6⟩ := H
  exact own_res (post0 := [r, a, b, c]) n1 n2 n3 n4 n5 n6 (own_okc (st0 := []) (kx := [a, b, c]) (stk := [c, b, a]) (by simp) (by simp [own_K]) (by simp [*]) (by simp) (by simp) (own_okc (st0 := [c, b]) (kx := []) (stk := [c, b]) (by simp) (by simp [own_K, *]) (by simp) (by simp) (by simp) (own_okc (st0 := [c]) (kx := []) (stk := [c]) (by simp) (by simp [own_K, *]) (by simp) (by simp) (by simp) (own_okc (st0 := []) (kx := []) (stk := []) (by simp) (by simp [own_K, *]) (by simp) (by simp) (by simp) (rfl))))) (by simp) hr (by simp [own_fin, own_upd, *]) (v1 := 1) (by simp [own_fin, own_upd, *]) (v2 := 2) (by simp [own_fin, own_upd, *]) (v3 := 3) (by simp [own_fin, own_upd, *]) (by rintro x y (rfl | rfl | rfl | rfl) (rfl | rfl | rfl | rfl) <;> decide)
theorem own_c0001 {r a b c : Addr} {sb sa sr : Int32} (H : own_N r a b c) (hb : sb = 1) (ha : sa = 1) (hr : sr = 4) : own_Res r a b c 0 0 sb sa sr (own_K r a b [c, b, a] [] []) := by
  subst hb ha
  obtain ⟨⟨n1, n2, n3, n4, n5, n6⟩, m1, m2, m3, m4, m5, m6⟩ := H
  exact own_res (post0 := [r, c, b, a]) n1 n2 n3 n4 n5 n6 (own_okc (st0 := []) (kx := [c, b, a]) (stk := [a, b, c]) (by simp) (by simp [own_K]) (by simp [*]) (by simp) (by simp) (own_okc (st0 := [a, b]) (kx := []) (stk := [a, b]) (by simp) (by simp [own_K, *]) (by simp) (by simp) (by simp) (own_okc (st0 := [a]) (kx := []) (stk := [a]) (by simp) (by simp [own_K, *]) (by simp) (by simp) (by simp) (own_okc (st0 := []) (kx := []) (stk := []) (by simp) (by simp [own_K, *]) (by simp) (by simp) (by simp) (rfl))))) (by simp) hr (by simp [own_fin, own_upd, *]) (v1 := 3) (by simp [own_fin, own_upd, *]) (v2 := 2) (by simp [own_fin, own_upd, *]) (v3 := 1) (by simp [own_fin, own_upd, *]) (by rintro x y (rfl | rfl | rfl | rfl) (rfl | rfl | rfl | rfl) <;> decide)
theorem own_c0010 {r a b c : Addr} {sb sa sr : Int32} (H : own_N r a b c) (hb : sb = 1) (ha : sa = 1) (hr : sr = 4) : own_Res r a b c 0 0 sb sa sr (own_K r a b [a, b, c] [] []) := by
  subst hb ha
  obtain ⟨⟨n1, n2, n3, n4, n5, n6⟩, m1, m2, m3, m4, m5, m6⟩ := H
  exact own_res (post0 := [r, a, b, c]) n1 n2 n3 n4 n5 n6 (own_okc (st0 := []) (kx := [a, b, c]) (stk := [c, b, a]) (by simp) (by simp [own_K]) (by simp [*]) (by simp) (by simp) (own_okc (st0 := [c, b]) (kx := []) (stk := [c, b]) (by simp) (by simp [own_K, *]) (by simp) (by simp) (by simp) (own_okc (st0 := [c]) (kx := []) (stk := [c]) (by simp) (by simp [own_K, *]) (by simp) (by simp) (by simp) (own_okc (st0 := []) (kx := []) (stk := []) (by simp) (by simp [own_K, *]) (by simp) (by simp) (by simp) (rfl))))) (by simp) hr (by simp [own_fin, own_upd, *]) (v1 := 1) (by simp [own_fin, own_upd, *]) (v2 := 2) (by simp [own_fin, own_upd, *]) (v3 := 3) (by simp [own_fin, own_upd, *]) (by rintro x y (rfl | rfl | rfl | rfl) (rfl | rfl | rfl | rfl) <;> decide)
theorem own_c0011 {r a b c : Addr} {sb sa sr : Int32} (H : own_N r a b c) (hb : sb = 1) (ha : sa = 1) (hr : sr = 4) : own_Res r a b c 0 0 sb sa sr (own_K r a b [c, b, a] [] []) := by
  subst hb ha
  obtain ⟨⟨n1, n2, n3, n4, n5, n6⟩, m1, m2, m3, m4, m5, m6⟩ := H
  exact own_res (post0 := [r, c, b, a]) n1 n2 n3 n4 n5 n6 (own_okc (st0 := []) (kx := [c, b, a]) (stk := [a, b, c]) (by simp) (by simp [own_K]) (by simp [*]) (by simp) (by simp) (own_okc (st0 := [a, b]) (kx := []) (stk := [a, b]) (by simp) (by simp [own_K, *]) (by simp) (by simp) (by simp) (own_okc (st0 := [a]) (kx := []) (stk := [a]) (by simp) (by simp [own_K, *]) (by simp) (by simp) (by simp) (own_okc (st0 := []) (kx := []) (stk := []) (by simp) (by simp [own_K, *]) (by simp) (by simp) (by simp) (rfl))))) (by simp) hr (by simp [own_fin, own_upd, *]) (v1 := 3) (by simp [own_fin, own_upd, *]) (v2 := 2) (by simp [own_fin, own_upd, *]) (v3 := 1) (by simp [own_fin, own_upd, *]) (by rintro x y (rfl | rfl | rfl | rfl) (rfl | rfl | rfl | rfl) <;> decide)
theorem own_c0100 {r a b c : Addr} {sb sa sr : Int32} (H : own_N r a b c) (hb : sb = 1) (ha : sa = 2) (hr : sr = 4) : own_Res r a b c 0 1 sb sa sr (own_K r a b [a, b] [c] []) := by
  subst hb ha
  obtain ⟨⟨n1, n2, n3, n4, n5, n6⟩, m1, m2, m3, m4, m5, m6⟩ := H
  exact own_res (post0 := [r, a, c, b]) n1 n2 n3 n4 n5 n6 (own_okc (st0 := []) (kx := [a, b]) (stk := [b, a]) (by simp) (by simp [own_K]) (by simp [*]) (by simp) (by simp) (own_okc (st0 := [b]) (kx := [c]) (stk := [b, c]) (by simp) (by simp [own_K, *]) (by simp [*]) (by simp) (by simp) (own_okc (st0 := [b]) (kx := []) (stk := [b]) (by simp) (by simp [own_K, *]) (by simp) (by simp) (by simp) (own_okc (st0 := []) (kx := []) (stk := []) (by simp) (by simp [own_K, *]) (by simp) (by simp) (by simp) (rfl))))) (by simp) hr (by simp [own_fin, own_upd, *]) (v1 := 1) (by simp [own_fin, own_upd, *]) (v2 := 3) (by simp [own_fin, own_upd, *]) (v3 := 2) (by simp [own_fin, own_upd, *]) (by rintro x y (rfl | rfl | rfl | rfl) (rfl | rfl | rfl | rfl) <;> decide)
theorem own_c0101 {r a b c : Addr} {sb sa sr : Int32} (H : own_N r a b c) (hb : sb = 1) (ha : sa = 2) (hr : sr = 4) : own_Res r a b c 0 1 sb sa sr (own_K r a b [b, a] [c] []) := by
  subst hb ha
  obtain ⟨⟨n1, n2, n3, n4, n5, n6⟩, m1, m2, m3, m4, m5, m6⟩ := H
  exact own_res (post0 := [r, b, a, c]) n1 n2 n3 n4 n5 n6 (own_okc (st0 := []) (kx := [b, a]) (stk := [a, b]) (by simp) (by simp [own_K]) (by simp [*]) (by simp) (by simp) (own_okc (st0 := [a]) (kx := []) (stk := [a]) (by simp) (by simp [own_K, *]) (by simp) (by simp) (by simp) (own_okc (st0 := []) (kx := [c]) (stk := [c]) (by simp) (by simp [own_K, *]) (by simp [*]) (by simp) (by simp) (own_okc (st0 := []) (kx := []) (stk := []) (by simp) (by simp [own_K, *]) (by simp) (by simp) (by simp) (rfl))))) (by simp) hr (by simp [own_fin, own_upd, *]) (v1 := 2) (by simp [own_fin, own_upd, *]) (v2 := 1) (by simp [own_fin, own_upd, *]) (v3 := 3) (by simp [own_fin, own_upd, *]) (by rintro x y (rfl | rfl | rfl | rfl) (rfl | rfl | rfl | rfl) <;> decide)
theorem own_c0110 {r a b c : Addr} {sb sa sr : Int32} (H : own_N r a b c) (hb : sb = 1) (ha : sa = 2) (hr : sr = 4) : own_Res r a b c 0 1 sb sa sr (own_K r a b [a, b] [c] []) := by
  subst hb ha
  obtain ⟨⟨n1, n2, n3, n4, n5, n6⟩, m1, m2, m3, m4, m5, m6⟩ := H
  exact own_res (post0 := [r, a, c, b]) n1 n2 n3 n4 n5 n6 (own_okc (st0 := []) (kx := [a, b]) (stk := [b, a]) (by simp) (by simp [own_K]) (by simp [*]) (by simp) (by simp) (own_okc (st0 := [b]) (kx := [c]) (stk := [b, c]) (by simp) (by simp [own_K, *]) (by simp [*]) (by simp) (by simp) (own_okc (st0 := [b]) (kx := []) (stk := [b]) (by simp) (by simp [own_K, *]) (by simp) (by simp) (by simp) (own_okc (st0 := []) (kx := []) (stk := []) (by simp) (by simp [own_K, *]) (by simp) (by simp) (by simp) (rfl))))) (by simp) hr (by simp [own_fin, own_upd, *]) (v1 := 1) (by simp [own_fin, own_upd, *]) (v2 := 3) (by simp [own_fin, own_upd, *]) (v3 := 2) (by simp [own_fin, own_upd, *]) (by rintro x y (rfl | rfl | rfl | rfl) (rfl | rfl | rfl | rfl) <;> decide)
theorem own_c0111 {r a b c : Addr} {sb sa sr : Int32} (H : own_N r a b c) (hb : sb = 1) (ha : sa = 2) (hr : sr = 4) : own_Res r a b c 0 1 sb sa sr (own_K r a b [b, a] [c] []) := by
  subst hb ha
  obtain ⟨⟨n1, n2, n3, n4, n5, n6⟩, m1, m2, m3, m4, m5, m6⟩ := H
  exact own_res (post0 := [r, b, a, c]) n1 n2 n3 n4 n5 n6 (own_okc (st0 := []) (kx := [b, a]) (stk := [a, b]) (by simp) (by simp [own_K]) (by simp [*]) (by simp) (by simp) (own_okc (st0 := [a]) (kx := []) (stk := [a]) (by simp) (by simp [own_K, *]) (by simp) (by simp) (by simp) (own_okc (st0 := []) (kx := [c]) (stk := [c]) (by simp) (by simp [own_K, *]) (by simp [*]) (by simp) (by simp) (own_okc (st0 := []) (kx := []) (stk := []) (by simp) (by simp [own_K, *]) (by simp) (by simp) (by simp) (rfl))))) (by simp) hr (by simp [own_fin, own_upd, *]) (v1 := 2) (by simp [own_fin, own_upd, *]) (v2 := 1) (by simp [own_fin, own_upd, *]) (v3 := 3) (by simp [own_fin, own_upd, *]) (by rintro x y (rfl | rfl | rfl | rfl) (rfl | rfl | rfl | rfl) <;> decide)
theorem own_c0200 {r a b c : Addr} {sb sa sr : Int32} (H : own_N r a b c) (hb : sb = 2) (ha : sa = 1) (hr : sr = 4) : own_Res r a b c 0 2 sb sa sr (own_K r a b [a, b] [] [c]) := by
  subst hb ha
  obtain ⟨⟨n1, n2, n3, n4, n5, n6⟩, m1, m2, m3, m4, m5, m6⟩ := H
  exact own_res (post0 := [r, a, b, c]) n1 n2 n3 n4 n5 n6 (own_okc (st0 := []) (kx := [a, b]) (stk := [b, a]) (by simp) (by simp [own_K]) (by simp [*]) (by simp) (by simp) (own_okc (st0 := [b]) (kx := []) (stk := [b]) (by simp) (by simp [own_K, *]) (by simp) (by simp) (by simp) (own_okc (st0 := []) (kx := [c]) (stk := [c]) (by simp) (by simp [own_K, *]) (by simp [*]) (by simp) (by simp) (own_okc (st0 := []) (kx := []) (stk := []) (by simp) (by simp [own_K, *]) (by simp) (by simp) (by simp) (rfl))))) (by simp) hr (by simp [own_fin, own_upd, *]) (v1 := 1) (by simp [own_fin, own_upd, *]) (v2 := 2) (by simp [own_fin, own_upd, *]) (v3 := 3) (by simp [own_fin, own_upd, *]) (by rintro x y (rfl | rfl | rfl | rfl) (rfl | rfl | rfl | rfl) <;> decide)
theorem own_c0201 {r a b c : Addr} {sb sa sr : Int32} (H : own_N r a b c) (hb : sb = 2) (ha : sa = 1) (hr : sr = 4) : own_Res r a b c 0 2 sb sa sr (own_K r a b [b, a] [] [c]) := by
  subst hb ha
  obtain ⟨⟨n1, n2, n3, n4, n5, n6⟩, m1, m2, m3, m4, m5, m6⟩ := H
  exact own_res (post0 := [r, b, c, a]) n1 n2 n3 n4 n5 n6 (own_okc (st0 := []) (kx := [b, a]) (stk := [a, b]) (by simp) (by simp [own_K]) (by simp [*]) (by simp) (by simp) (own_okc (st0 := [a]) (kx := [c]) (stk := [a, c]) (by simp) (by simp [own_K, *]) (by simp [*]) (by simp) (by simp) (own_okc (st0 := [a]) (kx := []) (stk := [a]) (by simp) (by simp [own_K, *]) (by simp) (by simp) (by simp) (own_okc (st0 := []) (kx := []) (stk := []) (by simp) (by simp [own_K, *]) (by simp) (by simp) (by simp) (rfl))))) (by simp) hr (by simp [own_fin, own_upd, *]) (v1 := 3) (by simp [own_fin, own_upd, *]) (v2 := 1) (by simp [own_fin, own_upd, *]) (v3 := 2) (by simp [own_fin, own_upd, *]) (by rintro x y (rfl | rfl | rfl | rfl) (rfl | rfl | rfl | rfl) <;> decide)
theorem own_c0210 {r a b c : Addr} {sb sa sr : Int32} (H : own_N r a b c) (hb : sb = 2) (ha : sa = 1) (hr : sr = 4) : own_Res r a b c 0 2 sb sa sr (own_K r a b [a, b] [] [c]) := by
  subst hb ha
  obtain ⟨⟨n1, n2, n3, n4, n5, n6⟩, m1, m2, m3, m4, m5, m6⟩ := H
  exact own_res (post0 := [r, a, b, c]) n1 n2 n3 n4 n5 n6 (own_okc (st0 := []) (kx := [a, b]) (stk := [b, a]) (by simp) (by simp [own_K]) (by simp [*]) (by simp) (by simp) (own_okc (st0 := [b]) (kx := []) (stk := [b]) (by simp) (by simp [own_K, *]) (by simp) (by simp) (by simp) (own_okc (st0 := []) (kx := [c]) (stk := [c]) (by simp) (by simp [own_K, *]) (by simp [*]) (by simp) (by simp) (own_okc (st0 := []) (kx := []) (stk := []) (by simp) (by simp [own_K, *]) (by simp) (by simp) (by simp) (rfl))))) (by simp) hr (by simp [own_fin, own_upd, *]) (v1 := 1) (by simp [own_fin, own_upd, *]) (v2 := 2) (by simp [own_fin, own_upd, *]) (v3 := 3) (by simp [own_fin, own_upd, *]) (by rintro x y (rfl | rfl | rfl | rfl) (rfl | rfl | rfl | rfl) <;> decide)
theorem own_c0211 {r a b c : Addr} {sb sa sr : Int32} (H : own_N r a b c) (hb : sb = 2) (ha : sa = 1) (hr : sr = 4) : own_Res r a b c 0 2 sb sa sr (own_K r a b [b, a] [] [c]) := by
  subst hb ha
  obtain ⟨⟨n1, n2, n3, n4, n5, n6⟩, m1, m2, m3, m4, m5, m6⟩ := H
  exact own_res (post0 := [r, b, c, a]) n1 n2 n3 n4 n5 n6 (own_okc (st0 := []) (kx := [b, a]) (stk := [a, b]) (by simp) (by simp [own_K]) (by simp [*]) (by simp) (by simp) (own_okc (st0 := [a]) (kx := [c]) (stk := [a, c]) (by simp) (by simp [own_K, *]) (by simp [*]) (by simp) (by simp) (own_okc (st0 := [a]) (kx := []) (stk := [a]) (by simp) (by simp [own_K, *]) (by simp) (by simp) (by simp) (own_okc (st0 := []) (kx := []) (stk := []) (by simp) (by simp [own_K, *]) (by simp) (by simp) (by simp) (rfl))))) (by simp) hr (by simp [own_fin, own_upd, *]) (v1 := 3) (by simp [own_fin, own_upd, *]) (v2 := 1) (by simp [own_fin, own_upd, *]) (v3 := 2) (by simp [own_fin, own_upd, *]) (by rintro x y (rfl | rfl | rfl | rfl) (rfl | rfl | rfl | rfl) <;> decide)
theorem own_c1000 {r a b c : Addr} {sb sa sr : Int32} (H : own_N r a b c) (hb : sb = 1) (ha : sa = 2) (hr : sr = 4) : own_Res r a b c 1 0 sb sa sr (own_K r a b [a, c] [b] []) := by
  subst hb ha
  obtain ⟨⟨n1, n2, n3, n4, n5, n6⟩, m1, m2, m3, m4, m5, m6⟩ := H
  exact own_res (post0 := [r, a, b, c]) n1 n2 n3 n4 n5 n6 (own_okc (st0 := []) (kx := [a, c]) (stk := [c, a]) (by simp) (by simp [own_K]) (by simp [*]) (by simp) (by simp) (own_okc (st0 := [c]) (kx := [b]) (stk := [c, b]) (by simp) (by simp [own_K, *]) (by simp [*]) (by simp) (by simp) (own_okc (st0 := [c]) (kx := []) (stk := [c]) (by simp) (by simp [own_K, *]) (by simp) (by simp) (by simp) (own_okc (st0 := []) (kx := []) (stk := []) (by simp) (by simp [own_K, *]) (by simp) (by simp) (by simp) (rfl))))) (by simp) hr (by simp [own_fin, own_upd, *]) (v1 := 1) (by simp [own_fin, own_upd, *]) (v2 := 2) (by simp [own_fin, own_upd, *]) (v3 := 3) (by simp [own_fin, own_upd, *]) (by rintro x y (rfl | rfl | rfl | rfl) (rfl | rfl | rfl | rfl) <;> decide)
theorem own_c1001 {r a b c : Addr} {sb sa sr : Int32} (H : own_N r a b c) (hb : sb = 1) (ha : sa = 2) (hr : sr = 4) : own_Res r a b c 1 0 sb sa sr (own_K r a b [c, a] [b] []) := by
  subst hb ha
  obtain ⟨⟨n1, n2, n3, n4, n5, n6⟩, m1, m2, m3, m4, m5, m6⟩ := H
  exact own_res (post0 := [r, c, a, b]) n1 n2 n3 n4 n5 n6 (own_okc (st0 := []) (kx := [c, a]) (stk := [a, c]) (by simp) (by simp [own_K]) (by simp [*]) (by simp) (by simp) (own_okc (st0 := [a]) (kx := []) (stk := [a]) (by simp) (by simp [own_K, *]) (by simp) (by simp) (by simp) (own_okc (st0 := []) (kx := [b]) (stk := [b]) (by simp) (by simp [own_K, *]) (by simp [*]) (by simp) (by simp) (own_okc (st0 := []) (kx := []) (stk := []) (by simp) (by simp [own_K, *]) (by simp) (by simp) (by simp) (rfl))))) (by simp) hr (by simp [own_fin, own_upd, *]) (v1 := 2) (by simp [own_fin, own_upd, *]) (v2 := 3) (by simp [own_fin, own_upd, *]) (v3 := 1) (by simp [own_fin, own_upd, *]) (by rintro x y (rfl | rfl | rfl | rfl) (rfl | rfl | rfl | rfl) <;> decide)
theorem own_c1010 {r a b c : Addr} {sb sa sr : Int32} (H : own_N r a b c) (hb : sb = 1) (ha : sa = 2) (hr : sr = 4) : own_Res r a b c 1 0 sb sa sr (own_K r a b [a, c] [b] []) := by
  subst hb ha
  obtain ⟨⟨n1, n2, n3, n4, n5, n6⟩, m1, m2, m3, m4, m5, m6⟩ := H
  exact own_res (post0 := [r, a, b, c]) n1 n2 n3 n4 n5 n6 (own_okc (st0 := []) (kx := [a, c]) (stk := [c, a]) (by simp) (by simp [own_K]) (by simp [*]) (by simp) (by simp) (own_okc (st0 := [c]) (kx := [b]) (stk := [c, b]) (by simp) (by simp [own_K, *]) (by simp [*]) (by simp) (by simp) (own_okc (st0 := [c]) (kx := []) (stk := [c]) (by simp) (by simp [own_K, *]) (by simp) (by simp) (by simp) (own_okc (st0 := []) (kx := []) (stk := []) (by simp) (by simp [own_K, *]) (by simp) (by simp) (by simp) (rfl))))) (by simp) hr (by simp [own_fin, own_upd, *]) (v1 := 1) (by simp [own_fin, own_upd, *]) (v2 := 2) (by simp [own_fin, own_upd, *]) (v3 := 3) (by simp [own_fin, own_upd, *]) (by rintro x y (rfl | rfl | rfl | rfl) (rfl | rfl | rfl | rfl) <;> decide)
theorem own_c1011 {r a b c : Addr} {sb sa sr : Int32} (H : own_N r a b c) (hb : sb = 1) (ha : sa = 2) (hr : sr = 4) : own_Res r a b c 1 0 sb sa sr (own_K r a b [c, a] [b] []) := by
  subst hb ha
  obtain ⟨⟨n1, n2, n3, n4, n5, n6⟩, m1, m2, m3, m4, m5, m6⟩ := H
  exact own_res (post0 := [r, c, a, b]) n1 n2 n3 n4 n5 n6 (own_okc (st0 := []) (kx := [c, a]) (stk := [a, c]) (by simp) (by simp [own_K]) (by simp [*]) (by simp) (by simp) (own_okc (st0 := [a]) (kx := []) (stk := [a]) (by simp) (by simp [own_K, *]) (by simp) (by simp) (by simp) (own_okc (st0 := []) (kx := [b]) (stk := [b]) (by simp) (by simp [own_K, *]) (by simp [*]) (by simp) (by simp) (own_okc (st0 := []) (kx := []) (stk := []) (by simp) (by simp [own_K, *]) (by simp) (by simp) (by simp) (rfl))))) (by simp) hr (by simp [own_fin, own_upd, *]) (v1 := 2) (by simp [own_fin, own_upd, *]) (v2 := 3) (by simp [own_fin, own_upd, *]) (v3 := 1) (by simp [own_fin, own_upd, *]) (by rintro x y (rfl | rfl | rfl | rfl) (rfl | rfl | rfl | rfl) <;> decide)
theorem own_c1100 {r a b c : Addr} {sb sa sr : Int32} (H : own_N r a b c) (hb : sb = 1) (ha : sa = 3) (hr : sr = 4) : own_Res r a b c 1 1 sb sa sr (own_K r a b [a] [b, c] []) := by
  subst hb ha
  obtain ⟨⟨n1, n2, n3, n4, n5, n6⟩, m1, m2, m3, m4, m5, m6⟩ := H
  exact own_res (post0 := [r, a, b, c]) n1 n2 n3 n4 n5 n6 (own_okc (st0 := []) (kx := [a]) (stk := [a]) (by simp) (by simp [own_K]) (by simp [*]) (by simp) (by simp) (own_okc (st0 := []) (kx := [b, c]) (stk := [c, b]) (by simp) (by simp [own_K, *]) (by simp [*]) (by simp) (by simp) (own_okc (st0 := [c]) (kx := []) (stk := [c]) (by simp) (by simp [own_K, *]) (by simp) (by simp) (by simp) (own_okc (st0 := []) (kx := []) (stk := []) (by simp) (by simp [own_K, *]) (by simp) (by simp) (by simp) (rfl))))) (by simp) hr (by simp [own_fin, own_upd, *]) (v1 := 1) (by simp [own_fin, own_upd, *]) (v2 := 2) (by simp [own_fin, own_upd, *]) (v3 := 3) (by simp [own_fin, own_upd, *]) (by rintro x y (rfl | rfl | rfl | rfl) (rfl | rfl | rfl | rfl) <;> decide)
theorem own_c1101 {r a b c : Addr} {sb sa sr : Int32} (H : own_N r a b c) (hb : sb = 1) (ha : sa = 3) (hr : sr = 4) : own_Res r a b c 1 1 sb sa sr (own_K r a b [a] [b, c] []) := by
  subst hb ha
  obtain ⟨⟨n1, n2, n3, n4, n5, n6⟩, m1, m2, m3, m4, m5, m6⟩ := H
  exact own_res (post0 := [r, a, b, c]) n1 n2 n3 n4 n5 n6 (own_okc (st0 := []) (kx := [a]) (stk := [a]) (by simp) (by simp [own_K]) (by simp [*]) (by simp) (by simp) (own_okc (st0 := []) (kx := [b, c]) (stk := [c, b]) (by simp) (by simp [own_K, *]) (by simp [*]) (by simp) (by simp) (own_okc (st0 := [c]) (kx := []) (stk := [c]) (by simp) (by simp [own_K, *]) (by simp) (by simp) (by simp) (own_okc (st0 := []) (kx := []) (stk := []) (by simp) (by simp [own_K, *]) (by simp) (by simp) (by simp) (rfl))))) (by simp) hr (by simp [own_fin, own_upd, *]) (v1 := 1) (by simp [own_fin, own_upd, *]) (v2 := 2) (by simp [own_fin, own_upd, *]) (v3 := 3) (by simp [own_fin, own_upd, *]) (by rintro x y (rfl | rfl | rfl | rfl) (rfl | rfl | rfl | rfl) <;> decide)
theorem own_c1110 {r a b c : Addr} {sb sa sr : Int32} (H : own_N r a b c) (hb : sb = 1) (ha : sa = 3) (hr : sr = 4) : own_Res r a b c 1 1 sb sa sr (own_K r a b [a] [c, b] []) := by
  subst hb ha
  obtain ⟨⟨n1, n2, n3, n4, n5, n6⟩, m1, m2, m3, m4, m5, m6⟩ := H
  exact own_res (post0 := [r, a, c, b]) n1 n2 n3 n4 n5 n6 (own_okc (st0 := []) (kx := [a]) (stk := [a]) (by simp) (by simp [own_K]) (by simp [*]) (by simp) (by simp) (own_okc (st0 := []) (kx := [c, b]) (stk := [b, c]) (by simp) (by simp [own_K, *]) (by simp [*]) (by simp) (by simp) (own_okc (st0 := [b]) (kx := []) (stk := [b]) (by simp) (by simp [own_K, *]) (by simp) (by simp) (by simp) (own_okc (st0 := []) (kx := []) (stk := []) (by simp) (by simp [own_K, *]) (by simp) (by simp) (by simp) (rfl))))) (by simp) hr (by simp [own_fin, own_upd, *]) (v1 := 1) (by simp [own_fin, own_upd, *]) (v2 := 3) (by simp [own_fin, own_upd, *]) (v3 := 2) (by simp [own_fin, own_upd, *]) (by rintro x y (rfl | rfl | rfl | rfl) (rfl | rfl | rfl | rfl) <;> decide)
theorem own_c1111 {r a b c : Addr} {sb sa sr : Int32} (H : own_N r a b c) (hb : sb = 1) (ha : sa = 3) (hr : sr = 4) : own_Res r a b c 1 1 sb sa sr (own_K r a b [a] [c, b] []) := by
  subst hb ha
  obtain ⟨⟨n1, n2, n3, n4, n5, n6⟩, m1, m2, m3, m4, m5, m6⟩ := H
  exact own_res (post0 := [r, a, c, b]) n1 n2 n3 n4 n5 n6 (own_okc (st0 := []) (kx := [a]) (stk := [a]) (by simp) (by simp [own_K]) (by simp [*]) (by simp) (by simp) (own_okc (st0 := []) (kx := [c, b]) (stk := [b, c]) (by simp) (by simp [own_K, *]) (by simp [*]) (by simp) (by simp) (own_okc (st0 := [b]) (kx := []) (stk := [b]) (by simp) (by simp [own_K, *]) (by simp) (by simp) (by simp) (own_okc (st0 := []) (kx := []) (stk := []) (by simp) (by simp [own_K, *]) (by simp) (by simp) (by simp) (rfl))))) (by simp) hr (by simp [own_fin, own_upd, *]) (v1 := 1) (by simp [own_fin, own_upd, *]) (v2 := 3) (by simp [own_fin, own_upd, *]) (v3 := 2) (by simp [own_fin, own_upd, *]) (by rintro x y (rfl | rfl | rfl | rfl) (rfl | rfl | rfl | rfl) <;> decide)
theorem own_c1200 {r a b c : Addr} {sb sa sr : Int32} (H : own_N r a b c) (hb : sb = 2) (ha : sa = 3) (hr : sr = 4) : own_Res r a b c 1 2 sb sa sr (own_K r a b [a] [b] [c]) := by
  subst hb ha
  obtain ⟨⟨n1, n2, n3, n4, n5, n6⟩, m1, m2, m3, m4, m5, m6⟩ := H
  exact own_res (post0 := [r, a, b, c]) n1 n2 n3 n4 n5 n6 (own_okc (st0 := []) (kx := [a]) (stk := [a]) (by simp) (by simp [own_K]) (by simp [*]) (by simp) (by simp) (own_okc (st0 := []) (kx := [b]) (stk := [b]) (by simp) (by simp [own_K, *]) (by simp [*]) (by simp) (by simp) (own_okc (st0 := []) (kx := [c]) (stk := [c]) (by simp) (by simp [own_K, *]) (by simp [*]) (by simp) (by simp) (own_okc (st0 := []) (kx := []) (stk := []) (by simp) (by simp [own_K, *]) (by simp) (by simp) (by simp) (rfl))))) (by simp) hr (by simp [own_fin, own_upd, *]) (v1 := 1) (by simp [own_fin, own_upd, *]) (v2 := 2) (by simp [own_fin, own_upd, *]) (v3 := 3) (by simp [own_fin, own_upd, *]) (by rintro x y (rfl | rfl | rfl | rfl) (rfl | rfl | rfl | rfl) <;> decide)
theorem own_c1201 {r a b c : Addr} {sb sa sr : Int32} (H : own_N r a b c) (hb : sb = 2) (ha : sa = 3) (hr : sr = 4) : own_Res r a b c 1 2 sb sa sr (own_K r a b [a] [b] [c]) := by
  subst hb ha
  obtain ⟨⟨n1, n2, n3, n4, n5, n6⟩, m1, m2, m3, m4, m5, m6⟩ := H
  exact own_res (post0 := [r, a, b, c]) n1 n2 n3 n4 n5 n6 (own_okc (st0 := []) (kx := [a]) (stk := [a]) (by simp) (by simp [own_K]) (by simp [*]) (by simp) (by simp) (own_okc (st0 := []) (kx := [b]) (stk := [b]) (by simp) (by simp [own_K, *]) (by simp [*]) (by simp) (by simp) (own_okc (st0 := []) (kx := [c]) (stk := [c]) (by simp) (by simp [own_K, *]) (by simp [*]) (by simp) (by simp) (own_okc (st0 := []) (kx := []) (stk := []) (by simp) (by simp [own_K, *]) (by simp) (by simp) (by simp) (rfl))))) (by simp) hr (by simp [own_fin, own_upd, *]) (v1 := 1) (by simp [own_fin, own_upd, *]) (v2 := 2) (by simp [own_fin, own_upd, *]) (v3 := 3) (by simp [own_fin, own_upd, *]) (by rintro x y (rfl | rfl | rfl | rfl) (rfl | rfl | rfl | rfl) <;> decide)
theorem own_c1210 {r a b c : Addr} {sb sa sr : Int32} (H : own_N r a b c) (hb : sb = 2) (ha : sa = 3) (hr : sr = 4) : own_Res r a b c 1 2 sb sa sr (own_K r a b [a] [b] [c]) := by
  subst hb ha
  obtain ⟨⟨n1, n2, n3, n4, n5, n6⟩, m1, m2, m3, m4, m5, m6⟩ := H
  exact own_res (post0 := [r, a, b, c]) n1 n2 n3 n4 n5 n6 (own_okc (st0 := []) (kx := [a]) (stk := [a]) (by simp) (by simp [own_K]) (by simp [*]) (by simp) (by simp) (own_okc (st0 := []) (kx := [b]) (stk := [b]) (by simp) (by simp [own_K, *]) (by simp [*]) (by simp) (by simp) (own_okc (st0 := []) (kx := [c]) (stk := [c]) (by simp) (by simp [own_K, *]) (by simp [*]) (by simp) (by simp) (own_okc (st0 := []) (kx := []) (stk := []) (by simp) (by simp [own_K, *]) (by simp) (by simp) (by simp) (rfl))))) (by simp) hr (by simp [own_fin, own_upd, *]) (v1 := 1) (by simp [own_fin, own_upd, *]) (v2 := 2) (by simp [own_fin, own_upd, *]) (v3 := 3) (by simp [own_fin, own_upd, *]) (by rintro x y (rfl | rfl | rfl | rfl) (rfl | rfl | rfl | rfl) <;> decide)
theorem own_c1211 {r a b c : Addr} {sb sa sr : Int32} (H : own_N r a b c) (hb : sb = 2) (ha : sa = 3) (hr : sr = 4) : own_Res r a b c 1 2 sb sa sr (own_K r a b [a] [b] [c]) := by
  subst hb ha
  obtain ⟨⟨n1, n2, n3, n4, n5, n6⟩, m1, m2, m3, m4, m5, m6⟩ := H
  exact own_res (post0 := [r, a, b, c]) n1 n2 n3 n4 n5 n6 (own_okc (st0 := []) (kx := [a]) (stk := [a]) (by simp) (by simp [own_K]) (by simp [*]) (by simp) (by simp) (own_okc (st0 := []) (kx := [b]) (stk := [b]) (by simp) (by simp [own_K, *]) (by simp [*]) (by simp) (by simp) (own_okc (st0 := []) (kx := [c]) (stk := [c]) (by simp) (by simp [own_K, *]) (by simp [*]) (by simp) (by simp) (own_okc (st0 := []) (kx := []) (stk := []) (by simp) (by simp [own_K, *]) (by simp) (by simp) (by simp) (rfl))))) (by simp) hr (by simp [own_fin, own_upd, *]) (v1 := 1) (by simp [own_fin, own_upd, *]) (v2 := 2) (by simp [own_fin, own_upd, *]) (v3 := 3) (by simp [own_fin, own_upd, *]) (by rintro x y (rfl | rfl | rfl | rfl) (rfl | rfl | rfl | rfl) <;> decide)
theorem own_main {r a b c : Addr} {pb pc w1 w2 : Int32} {rk ak bk : List Addr} (n1 : ¬ r = a) (n2 : ¬ r = b) (n3 : ¬ r = c) (n4 : ¬ a = b) (n5 : ¬ a = c) (n6 : ¬ b = c) (hpb : pb = 0 ∨ pb = 1) (hpc : pc = 0 ∨ pc = 1 ∨ pc = 2) (hbk : bk = own_bk pc c) (hak : ak = own_ak pb pc w2 b c) (hrk : rk = own_rk pb pc w1 a b c) : own_Res r a b c pb pc (own_fold (fun _ => 1) 1 bk) (own_fold (own_Sa c (own_fold (fun _ => 1) 1 bk)) 1 ak) (own_fold (own_Sr c b (own_fold (fun _ => 1) 1 bk) (own_fold (own_Sa c (own_fold (fun _ => 1) 1 bk)) 1 ak)) 1 rk) (own_K r a b rk ak bk) := by
  have H : own_N r a b c := ⟨⟨n1, n2, n3, n4, n5, n6⟩, Ne.symm n1, Ne.symm n2, Ne.symm n3, Ne.symm n4, Ne.symm n5, Ne.symm n6⟩
  obtain ⟨-, m1, m2, m3, m4, m5, m6⟩ := id H
  by_cases q2 : w2 = 0 <;> by_cases q1 : w1 = 0 <;> rcases hpb with rfl | rfl <;> rcases hpc with rfl | rfl | rfl <;> simp [own_bk] at hbk <;> simp [own_ak, q2] at hak <;> simp [own_rk, q1] at hrk <;> subst hbk hak hrk
  · exact own_c0000 H (by simp [own_fold]) (by simp [own_fold, own_Sa, *]) (by simp [own_fold, own_Sa, own_Sr, *])
  · exact own_c0100 H (by simp [own_fold]) (by simp [own_fold, own_Sa, *]) (by simp [own_fold, own_Sa, own_Sr, *])
  · exact own_c0200 H (by simp [own_fold]) (by simp [own_fold, own_Sa, *]) (by simp [own_fold, own_Sa, own_Sr, *])
  · exact own_c1000 H (by simp [own_fold]) (by simp [own_fold, own_Sa, *]) (by simp [own_fold, own_Sa, own_Sr, *])
  · exact own_c1100 H (by simp [own_fold]) (by simp [own_fold, own_Sa, *]) (by simp [own_fold, own_Sa, own_Sr, *])
  · exact own_c1200 H (by simp [own_fold]) (by simp [own_fold, own_Sa, *]) (by simp [own_fold, own_Sa, own_Sr, *])
  · exact own_c0001 H (by simp [own_fold]) (by simp [own_fold, own_Sa, *]) (by simp [own_fold, own_Sa, own_Sr, *])
  · exact own_c0101 H (by simp [own_fold]) (by simp [own_fold, own_Sa, *]) (by simp [own_fold, own_Sa, own_Sr, *])
  · exact own_c0201 H (by simp [own_fold]) (by simp [own_fold, own_Sa, *]) (by simp [own_fold, own_Sa, own_Sr, *])
  · exact own_c1001 H (by simp [own_fold]) (by simp [own_fold, own_Sa, *]) (by simp [own_fold, own_Sa, own_Sr, *])
  · exact own_c1101 H (by simp [own_fold]) (by simp [own_fold, own_Sa, *]) (by simp [own_fold, own_Sa, own_Sr, *])
  · exact own_c1201 H (by simp [own_fold]) (by simp [own_fold, own_Sa, *]) (by simp [own_fold, own_Sa, own_Sr, *])
  · exact own_c0010 H (by simp [own_fold]) (by simp [own_fold, own_Sa, *]) (by simp [own_fold, own_Sa, own_Sr, *])
  · exact own_c0110 H (by simp [own_fold]) (by simp [own_fold, own_Sa, *]) (by simp [own_fold, own_Sa, own_Sr, *])
  · exact own_c0210 H (by simp [own_fold]) (by simp [own_fold, own_Sa, *]) (by simp [own_fold, own_Sa, own_Sr, *])
  · exact own_c1010 H (by simp [own_fold]) (by simp [own_fold, own_Sa, *]) (by simp [own_fold, own_Sa, own_Sr, *])
  · exact own_c1110 H (by simp [own_fold]) (by simp [own_fold, own_Sa, *]) (by simp [own_fold, own_Sa, own_Sr, *])
  · exact own_c1210 H (by simp [own_fold]) (by simp [own_fold, own_Sa, *]) (by simp [own_fold, own_Sa, own_Sr, *])
  · exact own_c0011 H (by simp [own_fold]) (by simp [own_fold, own_Sa, *]) (by simp [own_fold, own_Sa, own_Sr, *])
  · exact own_c0111 H (by simp [own_fold]) (by simp [own_fold, own_Sa, *]) (by simp [own_fold, own_Sa, own_Sr, *])
  · exact own_c0211 H (by simp [own_fold]) (by simp [own_fold, own_Sa, *]) (by simp [own_fold, own_Sa, own_Sr, *])
  · exact own_c1011 H (by simp [own_fold]) (by simp [own_fold, own_Sa, *]) (by simp [own_fold, own_Sa, own_Sr, *])
  · exact own_c1111 H (by simp [own_fold]) (by simp [own_fold, own_Sa, *]) (by simp [own_fold, own_Sa, own_Sr, *])
  · exact own_c1211 H (by simp [own_fold]) (by simp [own_fold, own_Sa, *]) (by simp [own_fold, own_Sa, own_Sr, *])
theorem own_bk_mem {pc : Int32} {c x : Addr} {l : List Addr} (hl : l = own_bk pc c) (hx : x ∈ l) : x = c := by
  rw [hl] at hx
  by_cases h1 : pc = 2 <;> simp [own_bk, h1] at hx
  exact hx
theorem own_ak_mem {pb pc w : Int32} {b c x : Addr} {l : List Addr} (hl : l = own_ak pb pc w b c) (hx : x ∈ l) : x = b ∨ x = c := by
  rw [hl] at hx
  by_cases h1 : w = 0 <;> by_cases h2 : pb = 1 <;> by_cases h3 : pc = 1 <;> simp [own_ak, h1, h2, h3] at hx <;> first | exact hx | exact Or.inl hx | exact Or.inr hx | exact hx.symm
theorem own_rk_mem {pb pc w : Int32} {a b c x : Addr} {l : List Addr} (hl : l = own_rk pb pc w a b c) (hx : x ∈ l) : x = a ∨ x = b ∨ x = c := by
  rw [hl] at hx
  by_cases h1 : w = 0 <;> by_cases h2 : pb = 0 <;> by_cases h3 : pc = 0 <;> simp [own_rk, h1, h2, h3] at hx <;> first | exact hx | (rcases hx with q | q | q <;> simp [q]; done) | (rcases hx with q | q <;> simp [q]; done) | (simp [hx]; done)
theorem own_bk_len {pc : Int32} {c : Addr} {l : List Addr} (hl : l = own_bk pc c) : l.length ≤ 3 := by
  rw [hl]
  by_cases h1 : pc = 2 <;> simp [own_bk, h1]
theorem own_ak_len {pb pc w : Int32} {b c : Addr} {l : List Addr} (hl : l = own_ak pb pc w b c) : l.length ≤ 3 := by
  rw [hl]
  by_cases h1 : w = 0 <;> by_cases h2 : pb = 1 <;> by_cases h3 : pc = 1 <;> simp [own_ak, h1, h2, h3]
theorem own_rk_len {pb pc w : Int32} {a b c : Addr} {l : List Addr} (hl : l = own_rk pb pc w a b c) : l.length ≤ 3 := by
  rw [hl]
  by_cases h1 : w = 0 <;> by_cases h2 : pb = 0 <;> by_cases h3 : pc = 0 <;> simp [own_rk, h1, h2, h3]
theorem own_atm {r a b c : Addr} {x : Int32} : own_at r a b c x ∈ [r, a, b, c] := by
  unfold own_at
  split
  · simp
  · split
    · simp
    · split <;> simp
theorem own_all4 {P : Addr → Prop} {r a b c : Addr} (h1 : P r) (h2 : P a) (h3 : P b) (h4 : P c) : ∀ x ∈ [r, a, b, c], P x := fun x hx => by
  simp only [List.mem_cons, List.not_mem_nil, or_false] at hx
  rcases hx with q | q | q | q <;> rw [q]
  · exact h1
  · exact h2
  · exact h3
  · exact h4
theorem own_eqk {x : Int32} {k : Nat} (hk : x.toBitVec.toNat = k) : x = Int32.ofBitVec (BitVec.ofNat 32 k) := by
  apply Int32.toBitVec_inj.mp
  apply BitVec.eq_of_toNat_eq
  rw [hk]
  have := x.toBitVec.isLt
  show k = (BitVec.ofNat 32 k).toNat
  rw [BitVec.toNat_ofNat, Nat.mod_eq_of_lt (by omega)]
theorem own_and3 (p : Int32) : own_q4 (p &&& 3) := by
  have h : (p &&& 3).toBitVec.toNat = p.toBitVec.toNat % 4 := by
    rw [Int32.toBitVec_and, BitVec.toNat_and]
    exact Nat.and_two_pow_sub_one_eq_mod _ 2
  have h4 : p.toBitVec.toNat % 4 < 4 := Nat.mod_lt _ (by decide)
  generalize p.toBitVec.toNat % 4 = k at h h4
  have hk : k = 0 ∨ k = 1 ∨ k = 2 ∨ k = 3 := by omega
  rcases hk with rfl | rfl | rfl | rfl
  · exact Or.inl (own_eqk h)
  · exact Or.inr (Or.inl (own_eqk h))
  · exact Or.inr (Or.inr (Or.inl (own_eqk h)))
  · exact Or.inr (Or.inr (Or.inr (own_eqk h)))
theorem own_and1 (p : Int32) : (p &&& 1) = 0 ∨ (p &&& 1) = 1 := by
  have h : (p &&& 1).toBitVec.toNat = p.toBitVec.toNat % 2 := by
    rw [Int32.toBitVec_and, BitVec.toNat_and]
    exact Nat.and_two_pow_sub_one_eq_mod _ 1
  have h4 : p.toBitVec.toNat % 2 < 2 := Nat.mod_lt _ (by decide)
  generalize p.toBitVec.toNat % 2 = k at h h4
  have hk : k = 0 ∨ k = 1 := by omega
  rcases hk with rfl | rfl
  · exact Or.inl (own_eqk h)
  · exact Or.inr (own_eqk h)
theorem own_mod3 (p : Int32) : (p &&& 2147483647) % 3 = 0 ∨ (p &&& 2147483647) % 3 = 1 ∨ (p &&& 2147483647) % 3 = 2 := by
  have h : (p &&& 2147483647).toBitVec.toNat = p.toBitVec.toNat % 2147483648 := by
    rw [Int32.toBitVec_and, BitVec.toNat_and]
    exact Nat.and_two_pow_sub_one_eq_mod _ 31
  have h0 : 0 ≤ (p &&& 2147483647).toInt := by
    show 0 ≤ (p &&& 2147483647).toBitVec.toInt
    rw [BitVec.toInt_eq_toNat_cond, h]
    have : p.toBitVec.toNat % 2147483648 < 2147483648 := Nat.mod_lt _ (by decide)
    rw [if_pos (by omega)]; omega
  generalize (p &&& 2147483647) = z at *
  have e : (z % 3).toInt = z.toInt % 3 := by
    rw [Int32.toInt_mod, Int.tmod_eq_emod_of_nonneg h0]; rfl
  have h3 : z.toInt % 3 = 0 ∨ z.toInt % 3 = 1 ∨ z.toInt % 3 = 2 := by omega
  rcases h3 with q | q | q
  · exact Or.inl (Int32.toInt_inj.mp (by rw [e, q]; rfl))
  · exact Or.inr (Or.inl (Int32.toInt_inj.mp (by rw [e, q]; rfl)))
  · exact Or.inr (Or.inr (Int32.toInt_inj.mp (by rw [e, q]; rfl)))
theorem own_atp {r a b c : Addr} {x : Int32} (hx : own_q4 x) : (¬ x < 0 ∧ x < (4 : Int32)) ∧ ([.ref r, .ref a, .ref b, .ref c] : List Value).getD x.toNatClampNeg .null = .ref (own_at r a b c x) := by
  rcases hx with rfl | rfl | rfl | rfl <;> exact ⟨by decide, rfl⟩
theorem own_HC {Z : State} {h : Heap} {S : Addr → Int32} {xs : List Addr} {P : Addr → Prop} (hm : ∀ x ∈ xs, P x) (H : ∀ x, P x → own_Ch Z h S x) : ∀ x ∈ xs, own_Ch Z h S x := fun x hx => H x (hm x hx)
theorem own_Node_inv {Z : State} {h : Heap} {em t : Addr} {xs : List Addr} {n : Int32} {K : Addr → List Addr} {S f : Addr → Int32} (F : own_Node Z h em t xs n) (hk : K t = xs) (hs : S t = n) (hf : f t = 0) : Exa Z h t "com/example/tributary/tributary/merge/Tree" ∧ (∃ l, Fld Z h t "com/example/tributary/tributary/merge/Tree" "children" "Ljava/util/List;" (.ref l) ∧ own_Kids Z h em h.size l (K t)) ∧ Fld Z h t "com/example/tributary/tributary/merge/Tree" "size" "I" (.int (S t)) ∧ Fld Z h t "com/example/tributary/tributary/merge/Tree" "pre" "I" (.int (f t)) ∧ ∃ v : Value, Fld Z h t "com/example/tributary/tributary/merge/Tree" "parent" "Lcom/example/tributary/tributary/merge/Tree;" v := by
  obtain ⟨E, ⟨l, G, D⟩, S1, P, Q, -, -⟩ := F
  rw [hk, hs, hf]
  exact ⟨E, ⟨l, G, D⟩, S1, P, _, Q⟩
theorem own_Inv0 {Z : State} {h : Heap} {em r a b c : Addr} {rk ak bk : List Addr} {sr sa sb : Int32} (Nr : own_Node Z h em r rk sr) (Na : own_Node Z h em a ak sa) (Nb : own_Node Z h em b bk sb) (Nc : own_Node Z h em c [] 1) (n1 : ¬ r = a) (n2 : ¬ r = b) (n3 : ¬ r = c) (n4 : ¬ a = b) (n5 : ¬ a = c) (n6 : ¬ b = c) :
    own_Inv Z h em h.size [r, a, b, c] (own_K r a b rk ak bk) (own_S4 r a b sr sa sb) (fun _ => 0) := by
  intro x hx
  simp only [List.mem_cons, List.not_mem_nil, or_false] at hx
  rcases hx with q | q | q | q <;> rw [q]
  · exact own_Node_inv (K := own_K r a b rk ak bk) (S := own_S4 r a b sr sa sb) (f := fun _ => 0) Nr (by rw [own_K, if_pos rfl]) (by rw [own_S4, if_pos rfl]) rfl
  · exact own_Node_inv (K := own_K r a b rk ak bk) (S := own_S4 r a b sr sa sb) (f := fun _ => 0) Na (by rw [own_K, if_neg (fun q => n1 q.symm), if_pos rfl]) (by rw [own_S4, if_neg (fun q => n1 q.symm), if_pos rfl]) rfl
  · exact own_Node_inv (K := own_K r a b rk ak bk) (S := own_S4 r a b sr sa sb) (f := fun _ => 0) Nb (by rw [own_K, if_neg (fun q => n2 q.symm), if_neg (fun q => n4 q.symm), if_pos rfl]) (by rw [own_S4, if_neg (fun q => n2 q.symm), if_neg (fun q => n4 q.symm), if_pos rfl]) rfl
  · exact own_Node_inv (K := own_K r a b rk ak bk) (S := own_S4 r a b sr sa sb) (f := fun _ => 0) Nc (by rw [own_K, if_neg (fun q => n3 q.symm), if_neg (fun q => n5 q.symm), if_neg (fun q => n6 q.symm)]) (by rw [own_S4, if_neg (fun q => n3 q.symm), if_neg (fun q => n5 q.symm), if_neg (fun q => n6 q.symm)]) rfl
theorem pd__Ljava_util_ArrayList__Lcom_example_tributary_tributary_merge_Tree_ : parseMethodDescriptor "(Ljava/util/ArrayList;)Lcom/example/tributary/tributary/merge/Tree;" = some ⟨[(.object "java/util/ArrayList")], some (.object "com/example/tributary/tributary/merge/Tree")⟩ := by decide +kernel
theorem pd__Lcom_example_tributary_tributary_merge_Tree__Ljava_util_List_ : parseMethodDescriptor "(Lcom/example/tributary/tributary/merge/Tree;)Ljava/util/List;" = some ⟨[(.object "com/example/tributary/tributary/merge/Tree")], some (.object "java/util/List")⟩ := by decide +kernel
theorem pd__Lcom_example_tributary_tributary_merge_Tree__Z : parseMethodDescriptor "(Lcom/example/tributary/tributary/merge/Tree;)Z" = some ⟨[(.object "com/example/tributary/tributary/merge/Tree")], some .boolean⟩ := by decide +kernel
theorem pd__II_I_Z : parseMethodDescriptor "(II[I)Z" = some ⟨[.int, .int, (.array .int)], some .boolean⟩ := by decide +kernel
theorem ef_0 (m : MethodId) (p1 : Int32) (p2 : Int32) (p3 : Int32) (p4 : Int32) : entryFrame m #[(.int p1), (.int p2), (.int p3), (.int p4)] maxLocals = (mkF m 0 #[own_i p1, own_i p2, own_i p3, own_i p4, .unset, .unset, .unset, .unset, .unset, .unset, .unset, .unset, .unset, .unset, .unset, .unset, .unset, .unset, .unset, .unset] []) := by first | (simp [entryFrame, mkF, argsToLocals, Value.category, maxLocals]; done) | rfl
def Q_0 (Z : State) (p1 p2 p3 p4 : Int32) (em el mr de : Addr) (kd : ClassId) (h0 : Heap) (n0 : Nat) (v : Option Value) (h : Heap) (L : List Loc) : Prop := v = some (.int 1) ∧ Fr n0 L
theorem rs_0_4 (l : Launch) (Z : State) (a0 : Array Value) (hw : own_W a0 Z) (ws : List Jvm.Cond) (p1 p2 p3 p4 : Int32) (em el mr de : Addr) (kd : ClassId) (h0 : Heap) (n0 : Nat) (pb : Int32) (pc : Int32) (xi : Int32) (yi : Int32) (Kf : Addr → List Addr) (Sf : Addr → Int32) (Ff : Addr → Int32) (b4 : Addr) (t12 : Addr) (b16 : Addr) (t34 : Addr) (b38 : Addr) (t64 : Addr) (b68 : Addr) (t100 : Addr) {p e s m below meth c s₁} (Bd : BodyLoose p l x (head1 (Jvm.Cond.code x code maxLocals ret :: ws) room_1) code maxLocals ret e s m #[(.int p1), (.int p2), (.int p3), (.int p4)] below meth c s₁) {vmc} (hZ : Z.Warmed39 (s.setVm vmc).vm) (hown : (s.setVm vmc).vm.findClass "com/example/tributary/tributary/merge/TreeContainsPinLaw" = some m.cls) (hml : c.maxLocals = 20) {Tc Lc0} (hhc : Heap) (Xc : Stand p l e room_1 (s.setVm vmc) m #[(.int p1), (.int p2), (.int p3), (.int p4)] below meth c Tc Lc0 74 332) (ec : Tc.heap = hhc) (Nc : Fr n0 Lc0) (Zc : n0 ≤ hhc.size) {kwc : Nat} (Sc : s.Since vmc kwc) (kpc : kwc ≤ hhc.size) (prec : ∀ t, Steps p.tables e below (Tc.setTop (mkF m 251 #[own_i p1, own_i p2, own_i p3, own_i p4, own_i pb, own_i pc, own_i xi, own_i yi, own_r b4, own_r t12, own_r b16, own_r t34, own_r b38, own_r t64, own_r b68, own_r t100, .unset, .unset, .unset, .unset] [])) t → Steps p.tables e below (s₁.setTop (entryFrame m #[(.int p1), (.int p2), (.int p3), (.int p4)] maxLocals)) t) (g_b4 : n0 ≤ b4) (sz_b4 : h0.size ≤ b4) (g_t12 : n0 ≤ t12) (sz_t12 : h0.size ≤ t12) (g_b16 : n0 ≤ b16) (sz_b16 : h0.size ≤ b16) (g_t34 : n0 ≤ t34) (sz_t34 : h0.size ≤ t34) (g_b38 : n0 ≤ b38) (sz_b38 : h0.size ≤ b38) (g_t64 : n0 ≤ t64) (sz_t64 : h0.size ≤ t64) (g_b68 : n0 ≤ b68) (sz_b68 : h0.size ≤ b68) (g_t100 : n0 ≤ t100) (sz_t100 : h0.size ≤ t100) (Kk : Keep h0 hhc []) (hpb : pb = 0 ∨ pb = 1) (hpc : pc = 0 ∨ pc = 1 ∨ pc = 2) (hxi : own_q4 xi) (hyi : own_q4 yi) (Iv : ∃ N, own_Inv Z hhc em N [t100, t64, t34, t12] Kf Sf Ff) (hres : ∀ x y, own_q4 x → own_q4 y → own_ct (Ff (own_at t100 t64 t34 t12 x)) (Sf (own_at t100 t64 t34 t12 x)) (Ff (own_at t100 t64 t34 t12 y)) = own_anc x y pb pc) :
    ∃ s₂ o, Steps p.tables e below (s₁.setTop (entryFrame m #[(.int p1), (.int p2), (.int p3), (.int p4)] maxLocals)) s₂ ∧ s₂.status = .running ∧ Ended s₂ below o ∧ ∃ v L, o = .returned v ∧ Q_0 Z p1 p2 p3 p4 em el mr de kd h0 n0 v s₂.heap L ∧ ReturnedEndW s o s₂ L room_1.cells room_1.slots := by
  have hx := Bd.exec
  have hby := Bd.bytes
  have hnm := (name_of_methodNamed Bd.named Bd.method).1
  obtain ⟨NN, Iw⟩ := Iv
  have Kq : Keep hhc hhc [] := Keep.refl _ _
  have Ee_t100 := (Iw t100 (List.mem_of_getElem? (i := 0) rfl)).1
  have Ee_t64 := (Iw t64 (List.mem_of_getElem? (i := 1) rfl)).1
  have Ee_t34 := (Iw t34 (List.mem_of_getElem? (i := 2) rfl)).1
  have Ee_t12 := (Iw t12 (List.mem_of_getElem? (i := 3) rfl)).1
  have pre108 : own_G p e below Tc s₁ _ _ := fun t k => prec t (by
    refine XS.iconst Xc.here hx rfl (hb hby at_251) ?_
    exact k)
  obtain ⟨T109, h109, k109, X109, e109, E109, A109, O109, st109⟩ := newR Xc hx hZ hown (own_h hw 31 rfl) (own_h hw 350 rfl) ec (g := (mkF m 252 #[own_i p1, own_i p2, own_i p3, own_i p4, own_i pb, own_i pc, own_i xi, own_i yi, own_r b4, own_r t12, own_r b16, own_r t34, own_r b38, own_r t64, own_r b68, own_r t100, .unset, .unset, .unset, .unset] [(.int (4 : Int32))])) rfl (hb hby at_252) rfl (by decide) (cap := 4) (by decide) (by decide) (by decide) (by decide)
  obtain ⟨b109, g109⟩ : ∃ z, z = hhc.size := ⟨_, rfl⟩
  rw [← g109] at A109 st109
  have ne_t100_b109 : t100 ≠ b109 := Nat.ne_of_lt (Nat.lt_of_lt_of_eq Ee_t100.lt g109.symm)
  have ne_t64_b109 : t64 ≠ b109 := Nat.ne_of_lt (Nat.lt_of_lt_of_eq Ee_t64.lt g109.symm)
  have ne_t34_b109 : t34 ≠ b109 := Nat.ne_of_lt (Nat.lt_of_lt_of_eq Ee_t34.lt g109.symm)
  have ne_t12_b109 : t12 ≠ b109 := Nat.ne_of_lt (Nat.lt_of_lt_of_eq Ee_t12.lt g109.symm)
  have g_b109 : n0 ≤ b109 := Nat.le_trans Zc (Nat.le_of_eq g109.symm)
  have sz_b109 : h0.size ≤ b109 := Nat.le_trans Kk.1 (Nat.le_of_eq g109.symm)
  have szq_b109 : hhc.size ≤ b109 := Nat.le_trans Kq.1 (Nat.le_of_eq g109.symm)
  have Z109 : n0 ≤ h109.size := Nat.le_trans Zc E109.1
  have kp109 : kwc ≤ h109.size := Nat.le_trans kpc E109.1
  have f110_0 := Ee_t100.ext E109
  have f110_1 := Ee_t64.ext E109
  have f110_2 := Ee_t34.ext E109
  have f110_3 := Ee_t12.ext E109
  have K111 := Kk.ext E109
  have K112 := Kq.ext E109
  have V109 := Arv.new A109 (by decide)
  have pre113 : own_G p e below T109 s₁ _ _ := fun t k => pre108 t (by
    refine st109 _ ?_
    exact k)
  have V114 : Arv Z h109 b109 k109 (.object "com/example/tributary/tributary/merge/Tree") (4 : Int32) [.null, .null, .null, .null] .null := V109.pad (pad_rep [] .null 4)
  have pre115 : own_G p e below T109 s₁ _ _ := fun t k => pre113 t (by
    refine XS.dup X109.here hx rfl (hb hby at_255) rfl rfl ?_
    refine XS.iconst X109.here hx rfl (hb hby at_256) ?_
    refine XS.aload X109.here hx rfl (hb hby at_257) rfl rfl ?_
    exact k)
  obtain ⟨cl116, Ar116, kc116, S116, M116, H116, G116⟩ := id V114
  have hin116 := inb_of S116 (j := (0 : Int32)) (by decide)
  obtain ⟨T116, h116, X116, e116, W116, st116⟩ := stR X109 hx hZ e109 Ar116 (j := (0 : Int32)) hin116 rfl (Sto.ofV Ar116 kc116 O109 (Ins.of_exa f110_0 (own_h hw 296 rfl))) (g := (mkF m 259 #[own_i p1, own_i p2, own_i p3, own_i p4, own_i pb, own_i pc, own_i xi, own_i yi, own_r b4, own_r t12, own_r b16, own_r t34, own_r b38, own_r t64, own_r b68, own_r t100, .unset, .unset, .unset, .unset] [(.ref t100), (.int (0 : Int32)), (.ref b109), (.ref b109)])) rfl rfl (hb hby at_259)
  have V116 : Arv Z h116 b109 k109 (.object "com/example/tributary/tributary/merge/Tree") (4 : Int32) [.ref t100, .null, .null, .null] .null := Arv.set Ar116 kc116 S116 M116 H116 G116 (v := (.ref t100)) rfl W116 0 (by decide) (by simp)
  have N116 := Fr.snoc X116 Nc g_b109
  have f117_0 := f110_0.wr W116
  have f117_1 := f110_1.wr W116
  have f117_2 := f110_2.wr W116
  have f117_3 := f110_3.wr W116
  have K118 := K111.wr W116 (Or.inr sz_b109)
  have K119 := K112.wr W116 (Or.inr szq_b109)
  have Z116 : n0 ≤ h116.size := Nat.le_trans Z109 (Keep.of_wr W116).1
  have kp116 : kwc ≤ h116.size := Nat.le_trans kp109 (Keep.of_wr W116).1
  have pre120 : own_G p e below T116 s₁ _ _ := fun t k => pre115 t (by
    refine st116 _ ?_
    refine XS.dup X116.here hx rfl (hb hby at_260) rfl rfl ?_
    refine XS.iconst X116.here hx rfl (hb hby at_261) ?_
    refine XS.aload X116.here hx rfl (hb hby at_262) rfl rfl ?_
    exact k)
  obtain ⟨cl121, Ar121, kc121, S121, M121, H121, G121⟩ := id V116
  have hin121 := inb_of S121 (j := (1 : Int32)) (by decide)
  obtain ⟨T121, h121, X121, e121, W121, st121⟩ := stR X116 hx hZ e116 Ar121 (j := (1 : Int32)) hin121 rfl (Sto.ofV Ar121 kc121 O109 (Ins.of_exa f117_1 (own_h hw 296 rfl))) (g := (mkF m 264 #[own_i p1, own_i p2, own_i p3, own_i p4, own_i pb, own_i pc, own_i xi, own_i yi, own_r b4, own_r t12, own_r b16, own_r t34, own_r b38, own_r t64, own_r b68, own_r t100, .unset, .unset, .unset, .unset] [(.ref t64), (.int (1 : Int32)), (.ref b109), (.ref b109)])) rfl rfl (hb hby at_264)
  have V121 : Arv Z h121 b109 k109 (.object "com/example/tributary/tributary/merge/Tree") (4 : Int32) [.ref t100, .ref t64, .null, .null] .null := Arv.set Ar121 kc121 S121 M121 H121 G121 (v := (.ref t64)) rfl W121 1 (by decide) (by simp)
  have N121 := Fr.snoc X121 N116 g_b109
  have f122_0 := f117_0.wr W121
  have f122_1 := f117_1.wr W121
  have f122_2 := f117_2.wr W121
  have f122_3 := f117_3.wr W121
  have K123 := K118.wr W121 (Or.inr sz_b109)
  have K124 := K119.wr W121 (Or.inr szq_b109)
  have Z121 : n0 ≤ h121.size := Nat.le_trans Z116 (Keep.of_wr W121).1
  have kp121 : kwc ≤ h121.size := Nat.le_trans kp116 (Keep.of_wr W121).1
  have pre125 : own_G p e below T121 s₁ _ _ := fun t k => pre120 t (by
    refine st121 _ ?_
    refine XS.dup X121.here hx rfl (hb hby at_265) rfl rfl ?_
    refine XS.iconst X121.here hx rfl (hb hby at_266) ?_
    refine XS.aload X121.here hx rfl (hb hby at_267) rfl rfl ?_
    exact k)
  obtain ⟨cl126, Ar126, kc126, S126, M126, H126, G126⟩ := id V121
  have hin126 := inb_of S126 (j := (2 : Int32)) (by decide)
  obtain ⟨T126, h126, X126, e126, W126, st126⟩ := stR X121 hx hZ e121 Ar126 (j := (2 : Int32)) hin126 rfl (Sto.ofV Ar126 kc126 O109 (Ins.of_exa f122_2 (own_h hw 296 rfl))) (g := (mkF m 269 #[own_i p1, own_i p2, own_i p3, own_i p4, own_i pb, own_i pc, own_i xi, own_i yi, own_r b4, own_r t12, own_r b16, own_r t34, own_r b38, own_r t64, own_r b68, own_r t100, .unset, .unset, .unset, .unset] [(.ref t34), (.int (2 : Int32)), (.ref b109), (.ref b109)])) rfl rfl (hb hby at_269)
  have V126 : Arv Z h126 b109 k109 (.object "com/example/tributary/tributary/merge/Tree") (4 : Int32) [.ref t100, .ref t64, .ref t34, .null] .null := Arv.set Ar126 kc126 S126 M126 H126 G126 (v := (.ref t34)) rfl W126 2 (by decide) (by simp)
  have N126 := Fr.snoc X126 N121 g_b109
  have f127_0 := f122_0.wr W126
  have f127_1 := f122_1.wr W126
  have f127_2 := f122_2.wr W126
  have f127_3 := f122_3.wr W126
  have K128 := K123.wr W126 (Or.inr sz_b109)
  have K129 := K124.wr W126 (Or.inr szq_b109)
  have Z126 : n0 ≤ h126.size := Nat.le_trans Z121 (Keep.of_wr W126).1
  have kp126 : kwc ≤ h126.size := Nat.le_trans kp121 (Keep.of_wr W126).1
  have pre130 : own_G p e below T126 s₁ _ _ := fun t k => pre125 t (by
    refine st126 _ ?_
    refine XS.dup X126.here hx rfl (hb hby at_270) rfl rfl ?_
    refine XS.iconst X126.here hx rfl (hb hby at_271) ?_
    refine XS.aload X126.here hx rfl (hb hby at_272) rfl rfl ?_
    exact k)
  obtain ⟨cl131, Ar131, kc131, S131, M131, H131, G131⟩ := id V126
  have hin131 := inb_of S131 (j := (3 : Int32)) (by decide)
  obtain ⟨T131, h131, X131, e131, W131, st131⟩ := stR X126 hx hZ e126 Ar131 (j := (3 : Int32)) hin131 rfl (Sto.ofV Ar131 kc131 O109 (Ins.of_exa f127_3 (own_h hw 296 rfl))) (g := (mkF m 274 #[own_i p1, own_i p2, own_i p3, own_i p4, own_i pb, own_i pc, own_i xi, own_i yi, own_r b4, own_r t12, own_r b16, own_r t34, own_r b38, own_r t64, own_r b68, own_r t100, .unset, .unset, .unset, .unset] [(.ref t12), (.int (3 : Int32)), (.ref b109), (.ref b109)])) rfl rfl (hb hby at_274)
  have V131 : Arv Z h131 b109 k109 (.object "com/example/tributary/tributary/merge/Tree") (4 : Int32) [.ref t100, .ref t64, .ref t34, .ref t12] .null := Arv.set Ar131 kc131 S131 M131 H131 G131 (v := (.ref t12)) rfl W131 3 (by decide) (by simp)
  have N131 := Fr.snoc X131 N126 g_b109
  have f132_0 := f127_0.wr W131
  have f132_1 := f127_1.wr W131
  have f132_2 := f127_2.wr W131
  have f132_3 := f127_3.wr W131
  have K133 := K128.wr W131 (Or.inr sz_b109)
  have K134 := K129.wr W131 (Or.inr szq_b109)
  have Z131 : n0 ≤ h131.size := Nat.le_trans Z126 (Keep.of_wr W131).1
  have kp131 : kwc ≤ h131.size := Nat.le_trans kp126 (Keep.of_wr W131).1
  have pre135 : own_G p e below T131 s₁ _ _ := fun t k => pre130 t (by
    refine st131 _ ?_
    refine XS.astore X131.here hx rfl (hb hby at_275) rfl rfl (l' := #[own_i p1, own_i p2, own_i p3, own_i p4, own_i pb, own_i pc, own_i xi, own_i yi, own_r b4, own_r t12, own_r b16, own_r t34, own_r b38, own_r t64, own_r b68, own_r t100, own_r b109, .unset, .unset, .unset]) rfl ?_
    refine XS.iconst X131.here hx rfl (hb hby at_277) ?_
    exact k)
  obtain ⟨T136, h136, k136, X136, e136, E136, A136, st136⟩ := newP X131 hx hZ (own_h hw 351 rfl) e131 (g := (mkF m 278 #[own_i p1, own_i p2, own_i p3, own_i p4, own_i pb, own_i pc, own_i xi, own_i yi, own_r b4, own_r t12, own_r b16, own_r t34, own_r b38, own_r t64, own_r b68, own_r t100, own_r b109, .unset, .unset, .unset] [(.int (4 : Int32))])) rfl (hb hby at_278) rfl (by decide) (cap := 4) (by decide) (by decide) (by decide) (by decide)
  obtain ⟨b136, g136⟩ : ∃ z, z = h131.size := ⟨_, rfl⟩
  rw [← g136] at A136 st136
  have ne_b109_b136 : b109 ≠ b136 := Nat.ne_of_lt (Nat.lt_of_lt_of_eq V131.lt g136.symm)
  have g_b136 : n0 ≤ b136 := Nat.le_trans Z131 (Nat.le_of_eq g136.symm)
  have sz_b136 : h0.size ≤ b136 := Nat.le_trans K133.1 (Nat.le_of_eq g136.symm)
  have szq_b136 : hhc.size ≤ b136 := Nat.le_trans K134.1 (Nat.le_of_eq g136.symm)
  have Z136 : n0 ≤ h136.size := Nat.le_trans Z131 E136.1
  have kp136 : kwc ≤ h136.size := Nat.le_trans kp131 E136.1
  have f137_0 := V131.ext E136
  have K138 := K133.ext E136
  have K139 := K134.ext E136
  have V136 := Arv.new A136 (by decide)
  have pre140 : own_G p e below T136 s₁ _ _ := fun t k => pre135 t (by
    refine st136 _ ?_
    exact k)
  have V141 : Arv Z h136 b136 k136 .int (4 : Int32) [(.int (0 : Int32)), (.int (0 : Int32)), (.int (0 : Int32)), (.int (0 : Int32))] (.int (0 : Int32)) := V136.pad (pad_rep [] (.int (0 : Int32)) 4)
  have pre142 : own_G p e below T136 s₁ _ _ := fun t k => pre140 t (by
    refine XS.dup X136.here hx rfl (hb hby at_280) rfl rfl ?_
    refine XS.iconst X136.here hx rfl (hb hby at_281) ?_
    refine XS.iconst X136.here hx rfl (hb hby at_282) ?_
    exact k)
  obtain ⟨cl143, Ar143, kc143, S143, M143, H143, G143⟩ := id V141
  have hin143 := inb_of S143 (j := (0 : Int32)) (by decide)
  obtain ⟨T143, h143, X143, e143, W143, st143⟩ := stI X136 hx hZ e136 Ar143 (j := (0 : Int32)) hin143 (g := (mkF m 283 #[own_i p1, own_i p2, own_i p3, own_i p4, own_i pb, own_i pc, own_i xi, own_i yi, own_r b4, own_r t12, own_r b16, own_r t34, own_r b38, own_r t64, own_r b68, own_r t100, own_r b109, .unset, .unset, .unset] [(.int (-1 : Int32)), (.int (0 : Int32)), (.ref b136), (.ref b136)])) rfl rfl (hb hby at_283)
  have V143 : Arv Z h143 b136 k136 .int (4 : Int32) [.int (-1 : Int32), .int (0 : Int32), .int (0 : Int32), .int (0 : Int32)] (.int (0 : Int32)) := Arv.set Ar143 kc143 S143 M143 H143 G143 (v := (.int (-1 : Int32))) rfl W143 0 (by decide) (by simp)
  have N143 := Fr.snoc X143 N131 g_b136
  have f144_0 := f137_0.other W143 ne_b109_b136
  have K145 := K138.wr W143 (Or.inr sz_b136)
  have K146 := K139.wr W143 (Or.inr szq_b136)
  have Z143 : n0 ≤ h143.size := Nat.le_trans Z136 (Keep.of_wr W143).1
  have kp143 : kwc ≤ h143.size := Nat.le_trans kp136 (Keep.of_wr W143).1
  have pre147 : own_G p e below T143 s₁ _ _ := fun t k => pre142 t (by
    refine st143 _ ?_
    refine XS.dup X143.here hx rfl (hb hby at_284) rfl rfl ?_
    refine XS.iconst X143.here hx rfl (hb hby at_285) ?_
    refine XS.iconst X143.here hx rfl (hb hby at_286) ?_
    exact k)
  obtain ⟨cl148, Ar148, kc148, S148, M148, H148, G148⟩ := id V143
  have hin148 := inb_of S148 (j := (1 : Int32)) (by decide)
  obtain ⟨T148, h148, X148, e148, W148, st148⟩ := stI X143 hx hZ e143 Ar148 (j := (1 : Int32)) hin148 (g := (mkF m 287 #[own_i p1, own_i p2, own_i p3, own_i p4, own_i pb, own_i pc, own_i xi, own_i yi, own_r b4, own_r t12, own_r b16, own_r t34, own_r b38, own_r t64, own_r b68, own_r t100, own_r b109, .unset, .unset, .unset] [(.int (0 : Int32)), (.int (1 : Int32)), (.ref b136), (.ref b136)])) rfl rfl (hb hby at_287)
  have V148 : Arv Z h148 b136 k136 .int (4 : Int32) [.int (-1 : Int32), .int (0 : Int32), .int (0 : Int32), .int (0 : Int32)] (.int (0 : Int32)) := Arv.set Ar148 kc148 S148 M148 H148 G148 (v := (.int (0 : Int32))) rfl W148 1 (by decide) (by simp)
  have N148 := Fr.snoc X148 N143 g_b136
  have f149_0 := f144_0.other W148 ne_b109_b136
  have K150 := K145.wr W148 (Or.inr sz_b136)
  have K151 := K146.wr W148 (Or.inr szq_b136)
  have Z148 : n0 ≤ h148.size := Nat.le_trans Z143 (Keep.of_wr W148).1
  have kp148 : kwc ≤ h148.size := Nat.le_trans kp143 (Keep.of_wr W148).1
  have pre152 : own_G p e below T148 s₁ _ _ := fun t k => pre147 t (by
    refine st148 _ ?_
    refine XS.dup X148.here hx rfl (hb hby at_288) rfl rfl ?_
    refine XS.iconst X148.here hx rfl (hb hby at_289) ?_
    refine XS.iload X148.here hx rfl (hb hby at_290) rfl ?_
    exact k)
  obtain ⟨cl153, Ar153, kc153, S153, M153, H153, G153⟩ := id V148
  have hin153 := inb_of S153 (j := (2 : Int32)) (by decide)
  obtain ⟨T153, h153, X153, e153, W153, st153⟩ := stI X148 hx hZ e148 Ar153 (j := (2 : Int32)) hin153 (g := (mkF m 292 #[own_i p1, own_i p2, own_i p3, own_i p4, own_i pb, own_i pc, own_i xi, own_i yi, own_r b4, own_r t12, own_r b16, own_r t34, own_r b38, own_r t64, own_r b68, own_r t100, own_r b109, .unset, .unset, .unset] [(.int pb), (.int (2 : Int32)), (.ref b136), (.ref b136)])) rfl rfl (hb hby at_292)
  have V153 : Arv Z h153 b136 k136 .int (4 : Int32) [.int (-1 : Int32), .int (0 : Int32), .int pb, .int (0 : Int32)] (.int (0 : Int32)) := Arv.set Ar153 kc153 S153 M153 H153 G153 (v := (.int pb)) rfl W153 2 (by decide) (by simp)
  have N153 := Fr.snoc X153 N148 g_b136
  have f154_0 := f149_0.other W153 ne_b109_b136
  have K155 := K150.wr W153 (Or.inr sz_b136)
  have K156 := K151.wr W153 (Or.inr szq_b136)
  have Z153 : n0 ≤ h153.size := Nat.le_trans Z148 (Keep.of_wr W153).1
  have kp153 : kwc ≤ h153.size := Nat.le_trans kp148 (Keep.of_wr W153).1
  have pre157 : own_G p e below T153 s₁ _ _ := fun t k => pre152 t (by
    refine st153 _ ?_
    refine XS.dup X153.here hx rfl (hb hby at_293) rfl rfl ?_
    refine XS.iconst X153.here hx rfl (hb hby at_294) ?_
    refine XS.iload X153.here hx rfl (hb hby at_295) rfl ?_
    exact k)
  obtain ⟨cl158, Ar158, kc158, S158, M158, H158, G158⟩ := id V153
  have hin158 := inb_of S158 (j := (3 : Int32)) (by decide)
  obtain ⟨T158, h158, X158, e158, W158, st158⟩ := stI X153 hx hZ e153 Ar158 (j := (3 : Int32)) hin158 (g := (mkF m 297 #[own_i p1, own_i p2, own_i p3, own_i p4, own_i pb, own_i pc, own_i xi, own_i yi, own_r b4, own_r t12, own_r b16, own_r t34, own_r b38, own_r t64, own_r b68, own_r t100, own_r b109, .unset, .unset, .unset] [(.int pc), (.int (3 : Int32)), (.ref b136), (.ref b136)])) rfl rfl (hb hby at_297)
  have V158 : Arv Z h158 b136 k136 .int (4 : Int32) [.int (-1 : Int32), .int (0 : Int32), .int pb, .int pc] (.int (0 : Int32)) := Arv.set Ar158 kc158 S158 M158 H158 G158 (v := (.int pc)) rfl W158 3 (by decide) (by simp)
  have N158 := Fr.snoc X158 N153 g_b136
  have f159_0 := f154_0.other W158 ne_b109_b136
  have K160 := K155.wr W158 (Or.inr sz_b136)
  have K161 := K156.wr W158 (Or.inr szq_b136)
  have Z158 : n0 ≤ h158.size := Nat.le_trans Z153 (Keep.of_wr W158).1
  have kp158 : kwc ≤ h158.size := Nat.le_trans kp153 (Keep.of_wr W158).1
  have pre162 : own_G p e below T158 s₁ _ _ := fun t k => pre157 t (by
    refine st158 _ ?_
    refine XS.astore X158.here hx rfl (hb hby at_298) rfl rfl (l' := #[own_i p1, own_i p2, own_i p3, own_i p4, own_i pb, own_i pc, own_i xi, own_i yi, own_r b4, own_r t12, own_r b16, own_r t34, own_r b38, own_r t64, own_r b68, own_r t100, own_r b109, own_r b136, .unset, .unset]) rfl ?_
    refine XS.aload X158.here hx rfl (hb hby at_300) rfl rfl ?_
    refine XS.iload X158.here hx rfl (hb hby at_302) rfl ?_
    exact k)
  obtain ⟨ax, hax⟩ : ∃ z, own_at t100 t64 t34 t12 xi = z := ⟨_, rfl⟩
  have pax := own_atp (r := t100) (a := t64) (b := t34) (c := t12) hxi
  rw [hax] at pax
  have max : ax ∈ [t100, t64, t34, t12] := by rw [← hax]; exact own_atm
  obtain ⟨Eax, -, Sax, Pax, -⟩ := Iw ax max
  obtain ⟨fax, hfax⟩ : ∃ z : Int32, Ff ax = z := ⟨_, rfl⟩
  obtain ⟨sax, hsax⟩ : ∃ z : Int32, Sf ax = z := ⟨_, rfl⟩
  rw [hsax] at Sax
  rw [hfax] at Pax
  have Eax2 := Eax.keep K161
  have Sax2 := Sax.keep K161 (by simp)
  have Pax2 := Pax.keep K161 (by simp)
  obtain ⟨ay, hay⟩ : ∃ z, own_at t100 t64 t34 t12 yi = z := ⟨_, rfl⟩
  have pay := own_atp (r := t100) (a := t64) (b := t34) (c := t12) hyi
  rw [hay] at pay
  have may : ay ∈ [t100, t64, t34, t12] := by rw [← hay]; exact own_atm
  obtain ⟨Eay, -, Say, Pay, -⟩ := Iw ay may
  obtain ⟨fay, hfay⟩ : ∃ z : Int32, Ff ay = z := ⟨_, rfl⟩
  obtain ⟨say, hsay⟩ : ∃ z : Int32, Sf ay = z := ⟨_, rfl⟩
  rw [hsay] at Say
  rw [hfay] at Pay
  have Eay2 := Eay.keep K161
  have Say2 := Say.keep K161 (by simp)
  have Pay2 := Pay.keep K161 (by simp)
  have hq1 := hres xi yi hxi hyi
  have hq2 := hres yi xi hyi hxi
  rw [hax, hay, hfax, hfay, hsax] at hq1
  rw [hax, hay, hfax, hfay, hsay] at hq2
  obtain ⟨cl163, Ar163, kc163, S163, M163, H163, G163⟩ := id f159_0
  have hin163 := inb_of S163 (j := xi) pax.1
  have hat163 : cl163.slots[(xi).toNatClampNeg]? = some (.ref ax) := H163.at hin163 pax.2
  obtain ⟨cl164, Ar164, kc164, S164, M164, H164, G164⟩ := id f159_0
  have hin164 := inb_of S164 (j := yi) pay.1
  have hat164 : cl164.slots[(yi).toNatClampNeg]? = some (.ref ay) := H164.at hin164 pay.2
  have pre165 : own_G p e below T158 s₁ _ _ := fun t k => pre162 t (by
    refine X158.aaload hx (j := xi) (v := (.ref ax)) (by rw [e158]; exact Ar163.1) (State.isArrayOf_alike hZ.alike Ar163.2.1) rfl Ar163.2.2 hin163 hat163 (g := (mkF m 304 #[own_i p1, own_i p2, own_i p3, own_i p4, own_i pb, own_i pc, own_i xi, own_i yi, own_r b4, own_r t12, own_r b16, own_r t34, own_r b38, own_r t64, own_r b68, own_r t100, own_r b109, own_r b136, .unset, .unset] [(.int xi), (.ref b109)])) rfl rfl (hb hby at_304) _ ?_
    refine XS.aload X158.here hx rfl (hb hby at_305) rfl rfl ?_
    refine XS.iload X158.here hx rfl (hb hby at_307) rfl ?_
    refine X158.aaload hx (j := yi) (v := (.ref ay)) (by rw [e158]; exact Ar164.1) (State.isArrayOf_alike hZ.alike Ar164.2.1) rfl Ar164.2.2 hin164 hat164 (g := (mkF m 309 #[own_i p1, own_i p2, own_i p3, own_i p4, own_i pb, own_i pc, own_i xi, own_i yi, own_r b4, own_r t12, own_r b16, own_r t34, own_r b38, own_r t64, own_r b68, own_r t100, own_r b109, own_r b136, .unset, .unset] [(.int yi), (.ref b109), (.ref ax)])) rfl rfl (hb hby at_309) _ ?_
    exact k)
  obtain ⟨cq166, kq166, q166a, q166b, q166c⟩ := isOf hZ e158 Eax2
  obtain ⟨_, _, ⟨T166, L166, kk166, nn166⟩, -, X166, ⟨Lc166, hQ166, l166, y166, z166⟩, st166⟩ := X158.virtualBack hx (y := own_y16) (z := own_y16) hown (mvT hZ (own_h hw 352 rfl)) (mvT hZ (own_h hw 353 rfl)) (notFace_of_selects (args := #[]) (mvT hZ (own_h hw 355 rfl))) (mvT hZ (own_h hw 355 rfl)) (mvT hZ (own_h hw 354 rfl)) (by decide) (backOf (W := 0) (rm_ct l Z a0 hw [] ax ay fax sax fay h158 n0 Z158 Pax2 Sax2 Pay2) hZ (own_h hw 356 rfl) (own_h hw 33 rfl) (by decide) (by decide)) q166a q166c (g := (mkF m 310 #[own_i p1, own_i p2, own_i p3, own_i p4, own_i pb, own_i pc, own_i xi, own_i yi, own_r b4, own_r t12, own_r b16, own_r t34, own_r b38, own_r t64, own_r b68, own_r t100, own_r b109, own_r b136, .unset, .unset] [(.ref ay), (.ref ax)])) rfl (by rw [hml]; rfl) (Steps.refl _) (argsL := [(.ref ay)]) (rest := []) (lenOf pd__Lcom_example_tributary_tributary_merge_Tree__Z rfl) rfl (by show 2 * 0 + _ ≤ _; exact Nat.le_of_eq rfl) (hb hby at_310) (fun _ _ => ⟨rfl, e158, (by decide : 76 + 0 ≤ _), (by decide : 340 + 0 ≤ _)⟩)
  dsimp only [Pt.U, Pt.locs, Pt.cells, Pt.slots] at X166 l166 y166 z166 st166 hQ166
  subst l166 y166 z166
  obtain ⟨rfl, N166q, eq166⟩ := hQ166
  have N166 := Fr.app N158 N166q
  obtain ⟨cl167, Ar167, kc167, S167, M167, H167, G167⟩ := id f159_0
  have hin167 := inb_of S167 (j := yi) pay.1
  have hat167 : cl167.slots[(yi).toNatClampNeg]? = some (.ref ay) := H167.at hin167 pay.2
  obtain ⟨cl168, Ar168, kc168, S168, M168, H168, G168⟩ := id f159_0
  have hin168 := inb_of S168 (j := xi) pax.1
  have hat168 : cl168.slots[(xi).toNatClampNeg]? = some (.ref ax) := H168.at hin168 pax.2
  have pre169 : own_G p e below T166 s₁ _ _ := fun t k => pre165 t (by
    refine st166.trans ?_
    refine XS.istore X166.here hx rfl (hb hby at_313) rfl (l' := #[own_i p1, own_i p2, own_i p3, own_i p4, own_i pb, own_i pc, own_i xi, own_i yi, own_r b4, own_r t12, own_r b16, own_r t34, own_r b38, own_r t64, own_r b68, own_r t100, own_r b109, own_r b136, .val (.int (own_ct fax sax fay)), .unset]) rfl ?_
    refine XS.aload X166.here hx rfl (hb hby at_315) rfl rfl ?_
    refine XS.iload X166.here hx rfl (hb hby at_317) rfl ?_
    refine X166.aaload hx (j := yi) (v := (.ref ay)) (by rw [eq166]; exact Ar167.1) (State.isArrayOf_alike hZ.alike Ar167.2.1) rfl Ar167.2.2 hin167 hat167 (g := (mkF m 319 #[own_i p1, own_i p2, own_i p3, own_i p4, own_i pb, own_i pc, own_i xi, own_i yi, own_r b4, own_r t12, own_r b16, own_r t34, own_r b38, own_r t64, own_r b68, own_r t100, own_r b109, own_r b136, .val (.int (own_ct fax sax fay)), .unset] [(.int yi), (.ref b109)])) rfl rfl (hb hby at_319) _ ?_
    refine XS.aload X166.here hx rfl (hb hby at_320) rfl rfl ?_
    refine XS.iload X166.here hx rfl (hb hby at_322) rfl ?_
    refine X166.aaload hx (j := xi) (v := (.ref ax)) (by rw [eq166]; exact Ar168.1) (State.isArrayOf_alike hZ.alike Ar168.2.1) rfl Ar168.2.2 hin168 hat168 (g := (mkF m 324 #[own_i p1, own_i p2, own_i p3, own_i p4, own_i pb, own_i pc, own_i xi, own_i yi, own_r b4, own_r t12, own_r b16, own_r t34, own_r b38, own_r t64, own_r b68, own_r t100, own_r b109, own_r b136, .val (.int (own_ct fax sax fay)), .unset] [(.int xi), (.ref b109), (.ref ay)])) rfl rfl (hb hby at_324) _ ?_
    exact k)
  obtain ⟨cq170, kq170, q170a, q170b, q170c⟩ := isOf hZ eq166 Eay2
  obtain ⟨_, _, ⟨T170, L170, kk170, nn170⟩, -, X170, ⟨Lc170, hQ170, l170, y170, z170⟩, st170⟩ := X166.virtualBack hx (y := own_y16) (z := own_y16) hown (mvT hZ (own_h hw 352 rfl)) (mvT hZ (own_h hw 353 rfl)) (notFace_of_selects (args := #[]) (mvT hZ (own_h hw 355 rfl))) (mvT hZ (own_h hw 355 rfl)) (mvT hZ (own_h hw 354 rfl)) (by decide) (backOf (W := 0) (rm_ct l Z a0 hw [] ay ax fay say fax h158 n0 Z158 Pay2 Say2 Pax2) hZ (own_h hw 356 rfl) (own_h hw 33 rfl) (by decide) (by decide)) q170a q170c (g := (mkF m 325 #[own_i p1, own_i p2, own_i p3, own_i p4, own_i pb, own_i pc, own_i xi, own_i yi, own_r b4, own_r t12, own_r b16, own_r t34, own_r b38, own_r t64, own_r b68, own_r t100, own_r b109, own_r b136, .val (.int (own_ct fax sax fay)), .unset] [(.ref ax), (.ref ay)])) rfl (by rw [hml]; rfl) (Steps.refl _) (argsL := [(.ref ax)]) (rest := []) (lenOf pd__Lcom_example_tributary_tributary_merge_Tree__Z rfl) rfl (by show 2 * 0 + _ ≤ _; exact Nat.le_of_eq rfl) (hb hby at_325) (fun _ _ => ⟨rfl, eq166, (by decide : 76 + 0 ≤ _), (by decide : 340 + 0 ≤ _)⟩)
  dsimp only [Pt.U, Pt.locs, Pt.cells, Pt.slots] at X170 l170 y170 z170 st170 hQ170
  subst l170 y170 z170
  obtain ⟨rfl, N170q, eq170⟩ := hQ170
  have N170 := Fr.app N166 N170q
  have pre171 : own_G p e below T170 s₁ _ _ := fun t k => pre169 t (by
    refine st170.trans ?_
    refine XS.istore X170.here hx rfl (hb hby at_328) rfl (l' := #[own_i p1, own_i p2, own_i p3, own_i p4, own_i pb, own_i pc, own_i xi, own_i yi, own_r b4, own_r t12, own_r b16, own_r t34, own_r b38, own_r t64, own_r b68, own_r t100, own_r b109, own_r b136, .val (.int (own_ct fax sax fay)), .val (.int (own_ct fay say fax))]) rfl ?_
    refine XS.iload X170.here hx rfl (hb hby at_330) rfl ?_
    refine XS.iload X170.here hx rfl (hb hby at_332) rfl ?_
    refine XS.iload X170.here hx rfl (hb hby at_334) rfl ?_
    refine XS.aload X170.here hx rfl (hb hby at_336) rfl rfl ?_
    exact k)
  obtain ⟨_, _, ⟨T172, L172, kk172, nn172⟩, -, X172, ⟨Lc172, hQ172, l172, y172, z172⟩, st172⟩ := Jvm.LawKit.callS X170 hx (y := own_y33) hown (mvT hZ (own_h hw 357 rfl)) (mvT hZ (own_h hw 358 rfl)) (mvT hZ (own_h hw 29 rfl)) (mvT hZ (own_h hw 359 rfl)) (by decide) (backOf (W := 1) (rm_anc l Z a0 hw [] xi yi pb pc b136 k136 h158 n0 Z158 V158 hyi hpb hpc) hZ (own_h hw 359 rfl) (own_h hw 29 rfl) (by decide) (by decide)) (g := (mkF m 338 #[own_i p1, own_i p2, own_i p3, own_i p4, own_i pb, own_i pc, own_i xi, own_i yi, own_r b4, own_r t12, own_r b16, own_r t34, own_r b38, own_r t64, own_r b68, own_r t100, own_r b109, own_r b136, .val (.int (own_ct fax sax fay)), .val (.int (own_ct fay say fax))] [(.ref b136), (.int yi), (.int xi), (.int (own_ct fax sax fay))])) rfl (by rw [hml]; rfl) (argsL := [(.int xi), (.int yi), (.ref b136)]) (rest := [(.int (own_ct fax sax fay))]) (lenOf pd__II_I_Z rfl) rfl (by show 2 * 0 + _ ≤ _; exact Nat.le_of_eq rfl) (hb hby at_338) (fun _ _ => ⟨rfl, eq170, (by decide : 76 + 0 ≤ _), (by decide : 340 + 0 ≤ _)⟩)
  dsimp only [Pt.U, Pt.locs, Pt.cells, Pt.slots] at X172 l172 y172 z172 st172 hQ172
  subst l172 y172 z172
  obtain ⟨rfl, N172q, eq172⟩ := hQ172
  have N172 := Fr.app N170 N172q
  have pre173 : own_G p e below T172 s₁ _ _ := fun t k => pre171 t (by
    refine st172 _ ?_
    refine XS.icmpNo X172.here hx rfl (hb hby at_341) rfl (XT.ii_ne_f hq1) ?_
    refine XS.iload X172.here hx rfl (hb hby at_344) rfl ?_
    refine XS.iload X172.here hx rfl (hb hby at_346) rfl ?_
    refine XS.iload X172.here hx rfl (hb hby at_348) rfl ?_
    refine XS.aload X172.here hx rfl (hb hby at_350) rfl rfl ?_
    exact k)
  obtain ⟨_, _, ⟨T174, L174, kk174, nn174⟩, -, X174, ⟨Lc174, hQ174, l174, y174, z174⟩, st174⟩ := Jvm.LawKit.callS X172 hx (y := own_y33) hown (mvT hZ (own_h hw 357 rfl)) (mvT hZ (own_h hw 358 rfl)) (mvT hZ (own_h hw 29 rfl)) (mvT hZ (own_h hw 359 rfl)) (by decide) (backOf (W := 1) (rm_anc l Z a0 hw [] yi xi pb pc b136 k136 h158 n0 Z158 V158 hxi hpb hpc) hZ (own_h hw 359 rfl) (own_h hw 29 rfl) (by decide) (by decide)) (g := (mkF m 352 #[own_i p1, own_i p2, own_i p3, own_i p4, own_i pb, own_i pc, own_i xi, own_i yi, own_r b4, own_r t12, own_r b16, own_r t34, own_r b38, own_r t64, own_r b68, own_r t100, own_r b109, own_r b136, .val (.int (own_ct fax sax fay)), .val (.int (own_ct fay say fax))] [(.ref b136), (.int xi), (.int yi), (.int (own_ct fay say fax))])) rfl (by rw [hml]; rfl) (argsL := [(.int yi), (.int xi), (.ref b136)]) (rest := [(.int (own_ct fay say fax))]) (lenOf pd__II_I_Z rfl) rfl (by show 2 * 0 + _ ≤ _; exact Nat.le_of_eq rfl) (hb hby at_352) (fun _ _ => ⟨rfl, eq172, (by decide : 76 + 0 ≤ _), (by decide : 340 + 0 ≤ _)⟩)
  dsimp only [Pt.U, Pt.locs, Pt.cells, Pt.slots] at X174 l174 y174 z174 st174 hQ174
  subst l174 y174 z174
  obtain ⟨rfl, N174q, eq174⟩ := hQ174
  have N174 := Fr.app N172 N174q
  have pre175 : own_G p e below T174 s₁ _ _ := fun t k => pre173 t (by
    refine st174 _ ?_
    refine XS.icmpNo X174.here hx rfl (hb hby at_355) rfl (XT.ii_ne_f hq2) ?_
    refine XS.iconst X174.here hx rfl (hb hby at_358) ?_
    refine XS.goto X174.here hx rfl (pc0 := 359) (pc' := 363) rfl (hb hby at_359) (by decide) (by decide) ?_
    exact k)
  obtain ⟨fs, hr, hrun, hended, hW⟩ := X174.leaveW Sc (Nat.le_trans kp158 (Nat.le_of_eq (congrArg Array.size eq174.symm))) (v := some (.int (1 : Int32))) (fun h => by rw [Bd.returns] at h; cases h)
  refine ⟨_, _, pre175 _ ?_, hrun, hended, _, _, rfl, ?_, hW.1, hW.2.1, hW.2.2.1, hW.2.2.2.mono (by decide) (by decide)⟩
  · exact retN X174 hx (t := .boolean) Bd.returns (by simp) (hb hby at_363) hr
  · show Q_0 Z p1 p2 p3 p4 em el mr de kd h0 n0 _ T174.heap _
    rw [eq174]
    exact ⟨rfl, N174⟩
theorem rs_0_3 (l : Launch) (Z : State) (a0 : Array Value) (hw : own_W a0 Z) (ws : List Jvm.Cond) (p1 p2 p3 p4 : Int32) (em el mr de : Addr) (kd : ClassId) (h0 : Heap) (n0 : Nat) (cz : Int32) (vf : Value) (SEM : Sta Z h0 "java/util/ImmutableCollections" "EMPTY" "Ljava/lang/Object;" (.ref em)) (EM : Exa Z h0 em "java/lang/Object") (SEL : Sta Z h0 "java/util/ImmutableCollections" "EMPTY_LIST" "Ljava/util/ImmutableCollections$ListN;" (.ref el)) (KE : own_Kids Z h0 em h0.size el []) (M1 : Mir Z "[Ljava/lang/Object;" mr) (SC : Sta Z h0 "java/lang/String" "COMPACT_STRINGS" "Z" (.int cz)) (hcz : ¬ cz = 0) (SF : Sta Z h0 "jdk/internal/util/Preconditions" "SIOOBE_FORMATTER" "Ljava/util/function/BiFunction;" vf) (hvf : vf.isRef = true) (SDE : Sta Z h0 "java/util/ArrayList" "DEFAULTCAPACITY_EMPTY_ELEMENTDATA" "[Ljava/lang/Object;" (.ref de)) (DA : Arv Z h0 de kd (.object "java/lang/Object") (0 : Int32) [] .null) (wT : (Jvm.Cond.instantiable "com/example/tributary/tributary/merge/Tree" 18).before a0 Z = true) {p e s m below meth c s₁} (Bd : BodyLoose p l x (head1 (Jvm.Cond.code x code maxLocals ret :: ws) room_1) code maxLocals ret e s m #[(.int p1), (.int p2), (.int p3), (.int p4)] below meth c s₁) (hml : c.maxLocals = 20) (pb : Int32) (pc : Int32) (xi : Int32) (yi : Int32) (bk : List Addr) (ak : List Addr) (rk : List Addr) (b4 : Addr) (t12 : Addr) (b16 : Addr) (t34 : Addr) (b38 : Addr) (t64 : Addr) (b68 : Addr) (vmc : Vm) (hZ : Z.Warmed39 (s.setVm vmc).vm) (hown : (s.setVm vmc).vm.findClass "com/example/tributary/tributary/merge/TreeContainsPinLaw" = some m.cls) (Tc : State) (Lc0 : List Loc) (hhc : Heap) (Xc : Stand p l e room_1 (s.setVm vmc) m #[(.int p1), (.int p2), (.int p3), (.int p4)] below meth c Tc Lc0 55 252) (ec : Tc.heap = hhc) (Nc : Fr n0 Lc0) (Zc : n0 ≤ hhc.size) (kwc : Nat) (Sc : s.Since vmc kwc) (kpc : kwc ≤ hhc.size) (prec : ∀ t, Steps p.tables e below (Tc.setTop (mkF m 238 #[own_i p1, own_i p2, own_i p3, own_i p4, own_i pb, own_i pc, own_i xi, own_i yi, own_r b4, own_r t12, own_r b16, own_r t34, own_r b38, own_r t64, own_r b68, .unset, .unset, .unset, .unset, .unset] [])) t → Steps p.tables e below (s₁.setTop (entryFrame m #[(.int p1), (.int p2), (.int p3), (.int p4)] maxLocals)) t) (g_b4 : n0 ≤ b4) (sz_b4 : h0.size ≤ b4) (g_t12 : n0 ≤ t12) (sz_t12 : h0.size ≤ t12) (g_b16 : n0 ≤ b16) (sz_b16 : h0.size ≤ b16) (g_t34 : n0 ≤ t34) (sz_t34 : h0.size ≤ t34) (g_b38 : n0 ≤ b38) (sz_b38 : h0.size ≤ b38) (g_t64 : n0 ≤ t64) (sz_t64 : h0.size ≤ t64) (g_b68 : n0 ≤ b68) (sz_b68 : h0.size ≤ b68) (Kk : Keep h0 hhc []) (hpb : pb = 0 ∨ pb = 1) (hpc : pc = 0 ∨ pc = 1 ∨ pc = 2) (hxi : own_q4 xi) (hyi : own_q4 yi) (hbk : bk = own_bk pc t12) (hbc : ¬ t34 = t12) (hac : ¬ t64 = t12) (hab : ¬ t64 = t34) (hak : ak = own_ak pb pc (p2 &&& (2 : Int32)) t34 t12) (hrk : rk = own_rk pb pc (p2 &&& (1 : Int32)) t64 t34 t12) (ALr : own_AL Z hhc de b68 rk) (CHc : CHv Z own_EL vmc hhc) (M_t12 : own_Node Z hhc em t12 [] 1) (M_t34 : own_Node Z hhc em t34 bk (own_fold (fun _ => 1) 1 bk)) (M_t64 : own_Node Z hhc em t64 ak (own_fold (own_Sa t12 (own_fold (fun _ => 1) 1 bk)) 1 ak)) :
    ∃ s₂ o, Steps p.tables e below (s₁.setTop (entryFrame m #[(.int p1), (.int p2), (.int p3), (.int p4)] maxLocals)) s₂ ∧ s₂.status = .running ∧ Ended s₂ below o ∧ ∃ v L, o = .returned v ∧ Q_0 Z p1 p2 p3 p4 em el mr de kd h0 n0 v s₂.heap L ∧ ReturnedEndW s o s₂ L room_1.cells room_1.slots := by
  have hx := Bd.exec
  have hby := Bd.bytes
  have hnm := (name_of_methodNamed Bd.named Bd.method).1
  have pre99 : own_G p e below Tc s₁ _ _ := fun t k => prec t (by
    refine XS.aload Xc.here hx rfl (hb hby at_238) rfl rfl ?_
    exact k)
  obtain ⟨_, _, ⟨T100, L100, kk100, nn100⟩, -, Y100, Sx100, gr100, ⟨Lc100, hQ100, l100, y100, z100, CH100⟩, st100⟩ := Jvm.RoadKit.callSS Xc hx (y := own_y10) hown (mvT hZ (own_h hw 27 rfl)) (mvT hZ (own_h hw 28 rfl)) (mvT hZ (own_h hw 29 rfl)) (mvT hZ (own_h hw 30 rfl)) (by decide) (backOfSH (W := 0) (rm_nd l Z a0 hw [] b68 em el mr de rk (own_Sr t12 t34 (own_fold (fun _ => 1) 1 bk) (own_fold (own_Sa t12 (own_fold (fun _ => 1) 1 bk)) 1 ak)) hhc n0 Zc (own_sta_keep SEM Kk (by intro x hx; cases hx)) (EM.keep Kk) (own_sta_keep SEL Kk (by intro x hx; cases hx)) (own_Kids_re wT KE Kk) M1 (own_sta_keep SC Kk (by intro x hx; cases hx)) hcz (own_sta_keep SF Kk (by intro x hx; cases hx)) hvf (own_sta_keep SDE Kk (by intro x hx; cases hx)) ALr (own_HC (P := fun x => x = t64 ∨ x = t34 ∨ x = t12) (fun x hx => own_rk_mem hrk hx) (fun x q => by rcases q with q | q | q; (rw [q]; exact own_Node_ch M_t64 (Keep.refl _ _) (by rw [own_Sr, if_neg hac, if_neg hab])); (rw [q]; exact own_Node_ch M_t34 (Keep.refl _ _) (by rw [own_Sr, if_neg hbc, if_pos rfl])); (rw [q]; exact own_Node_ch M_t12 (Keep.refl _ _) (by rw [own_Sr, if_pos rfl])))) (own_rk_len hrk)) hZ (own_h hw 30 rfl) (own_h hw 29 rfl) (by decide) (by decide) (own_EW hw) CHc) (g := (mkF m 240 #[own_i p1, own_i p2, own_i p3, own_i p4, own_i pb, own_i pc, own_i xi, own_i yi, own_r b4, own_r t12, own_r b16, own_r t34, own_r b38, own_r t64, own_r b68, .unset, .unset, .unset, .unset, .unset] [(.ref b68)])) rfl (by rw [hml]; rfl) (argsL := [(.ref b68)]) (rest := []) (lenOf pd__Ljava_util_ArrayList__Lcom_example_tributary_tributary_merge_Tree_ rfl) rfl (by show 2 * 0 + _ ≤ _; exact Nat.le_of_eq rfl) (hb hby at_240) (fun _ _ => ⟨rfl, ec, (by decide : 55 + 15 ≤ _), (by decide : 252 + 60 ≤ _)⟩)
  dsimp only [Pt.U, Pt.locs, Pt.cells, Pt.slots] at Y100 Sx100 gr100 l100 y100 z100 st100 hQ100 CH100
  subst l100 y100 z100
  obtain ⟨X100, S100, hZ, hown⟩ := rebS Sc (Nat.le_trans kpc (Nat.le_of_eq (congrArg Array.size ec.symm))) Y100 Sx100 gr100 hZ hown
  obtain ⟨t100, rfl, N100q, Kc100, g_t100, sx100, Nd100⟩ := hQ100
  have N100 := Fr.app Nc N100q
  have K102 := Kk.trans Kc100 (fun x hx => by cases hx)
  have Z100 : n0 ≤ T100.heap.size := Nat.le_trans Zc Kc100.1
  have kp100 : T100.heap.size ≤ T100.heap.size := Nat.le_refl _
  have e100 : T100.heap = T100.heap := rfl
  have sz_t100 : h0.size ≤ t100 := Nat.le_trans Kk.1 sx100
  have N100_t12 := own_Node_re wT M_t12 Kc100
  have nq_t100_t12 : ¬ t100 = t12 := fun q => Nat.ne_of_lt (Nat.lt_of_lt_of_le M_t12.1.lt sx100) q.symm
  have N100_t34 := own_Node_re wT M_t34 Kc100
  have nq_t100_t34 : ¬ t100 = t34 := fun q => Nat.ne_of_lt (Nat.lt_of_lt_of_le M_t34.1.lt sx100) q.symm
  have N100_t64 := own_Node_re wT M_t64 Kc100
  have nq_t100_t64 : ¬ t100 = t64 := fun q => Nat.ne_of_lt (Nat.lt_of_lt_of_le M_t64.1.lt sx100) q.symm
  have N100_t100 := Nd100
  have Kb100 : Keep T100.heap T100.heap [] := Keep.refl _ _
  have pre103 : own_G p e below T100 s₁ _ _ := fun t k => pre99 t (by
    refine st100.trans ?_
    refine XS.astore X100.here hx rfl (hb hby at_243) rfl rfl (l' := #[own_i p1, own_i p2, own_i p3, own_i p4, own_i pb, own_i pc, own_i xi, own_i yi, own_r b4, own_r t12, own_r b16, own_r t34, own_r b38, own_r t64, own_r b68, own_r t100, .unset, .unset, .unset, .unset]) rfl ?_
    refine XS.aload X100.here hx rfl (hb hby at_245) rfl rfl ?_
    exact k)
  obtain ⟨post0, hok0, hpl, hS4, hres⟩ := own_main (w1 := (p2 &&& (1 : Int32))) (w2 := (p2 &&& (2 : Int32))) nq_t100_t64 nq_t100_t34 nq_t100_t12 hab hac hbc hpb hpc hbk hak hrk
  have Iv0 := own_Inv0 N100_t100 N100_t64 N100_t34 N100_t12 nq_t100_t64 nq_t100_t34 nq_t100_t12 hab hac hbc
  obtain ⟨_, _, ⟨T104, L104, kk104, nn104⟩, -, X104, ⟨Lc104, hQ104, l104, y104, z104⟩, st104⟩ := Jvm.LawKit.callS X100 hx (y := own_y11) hown (mvT hZ (own_h hw 298 rfl)) (mvT hZ (own_h hw 299 rfl)) (mvT hZ (own_h hw 33 rfl)) (mvT hZ (own_h hw 300 rfl)) (by decide) (backOf (W := 0) (rm_idx l Z a0 hw [] t100 t64 t34 t12 em de kd (own_K t100 t64 t34 rk ak bk) (own_S4 t100 t64 t34 (own_fold (own_Sr t12 t34 (own_fold (fun _ => 1) 1 bk) (own_fold (own_Sa t12 (own_fold (fun _ => 1) 1 bk)) 1 ak)) 1 rk) (own_fold (own_Sa t12 (own_fold (fun _ => 1) 1 bk)) 1 ak) (own_fold (fun _ => 1) 1 bk)) (fun _ => 0) post0 T100.heap n0 Z100 (own_sta_keep SDE K102 (by intro x hx; cases hx)) (DA.keep K102 (by simp)) (own_sta_keep SEM K102 (by intro x hx; cases hx)) Iv0 hS4 hok0 hpl (own_all4 g_t100 g_t64 g_t34 g_t12)) hZ (own_h hw 300 rfl) (own_h hw 33 rfl) (by decide) (by decide)) (g := (mkF m 247 #[own_i p1, own_i p2, own_i p3, own_i p4, own_i pb, own_i pc, own_i xi, own_i yi, own_r b4, own_r t12, own_r b16, own_r t34, own_r b38, own_r t64, own_r b68, own_r t100, .unset, .unset, .unset, .unset] [(.ref t100)])) rfl (by rw [hml]; rfl) (argsL := [(.ref t100)]) (rest := []) (lenOf pd__Lcom_example_tributary_tributary_merge_Tree__Ljava_util_List_ rfl) rfl (by show 2 * 0 + _ ≤ _; exact Nat.le_of_eq rfl) (hb hby at_247) (fun _ _ => ⟨rfl, e100, (by decide : 70 + 4 ≤ _), (by decide : 312 + 20 ≤ _)⟩)
  dsimp only [Pt.U, Pt.locs, Pt.cells, Pt.slots] at X104 l104 y104 z104 st104 hQ104
  subst l104 y104 z104
  obtain ⟨lx104, rfl, N104q, Kc104, Iv104⟩ := hQ104
  have N104 := Fr.app N100 N104q
  have K106 := K102.trans Kc104 (by intro x hx; simp only [List.mem_cons, List.not_mem_nil, or_false] at hx; rcases hx with rfl | rfl | rfl | rfl; exact (Or.inr sz_t100); exact (Or.inr sz_t64); exact (Or.inr sz_t34); exact (Or.inr sz_t12))
  have Z104 : n0 ≤ T104.heap.size := Nat.le_trans Z100 Kc104.1
  have kp104 : T100.heap.size ≤ T104.heap.size := Nat.le_trans kp100 Kc104.1
  have e104 : T104.heap = T104.heap := rfl
  have pre107 : own_G p e below T104 s₁ _ _ := fun t k => pre103 t (by
    refine st104 _ ?_
    refine XT.pop X104.here hx rfl (hb hby at_250) rfl rfl ?_
    exact k)
  obtain ⟨Kf, hKf⟩ : ∃ z : Addr → List Addr, (own_K t100 t64 t34 rk ak bk) = z := ⟨_, rfl⟩
  obtain ⟨Sf, hSf⟩ : ∃ z : Addr → Int32, (own_S4 t100 t64 t34 (own_fold (own_Sr t12 t34 (own_fold (fun _ => 1) 1 bk) (own_fold (own_Sa t12 (own_fold (fun _ => 1) 1 bk)) 1 ak)) 1 rk) (own_fold (own_Sa t12 (own_fold (fun _ => 1) 1 bk)) 1 ak) (own_fold (fun _ => 1) 1 bk)) = z := ⟨_, rfl⟩
  obtain ⟨Ff, hFf⟩ : ∃ z : Addr → Int32, (own_fin post0 0 (fun _ => 0)) = z := ⟨_, rfl⟩
  have Iv : ∃ N, own_Inv Z T104.heap em N [t100, t64, t34, t12] Kf Sf Ff := ⟨_, by rw [← hKf, ← hSf, ← hFf]; exact Iv104⟩
  rw [hSf, hFf] at hres
  exact rs_0_4 l Z a0 hw ws p1 p2 p3 p4 em el mr de kd h0 n0 pb pc xi yi Kf Sf Ff b4 t12 b16 t34 b38 t64 b68 t100 Bd hZ hown hml T104.heap X104 e104 N104 Z104 S100 kp104 pre107 g_b4 sz_b4 g_t12 sz_t12 g_b16 sz_b16 g_t34 sz_t34 g_b38 sz_b38 g_t64 sz_t64 g_b68 sz_b68 g_t100 sz_t100 K106 hpb hpc hxi hyi Iv hres
theorem rs_0_2 (l : Launch) (Z : State) (a0 : Array Value) (hw : own_W a0 Z) (ws : List Jvm.Cond) (p1 p2 p3 p4 : Int32) (em el mr de : Addr) (kd : ClassId) (h0 : Heap) (n0 : Nat) (cz : Int32) (vf : Value) (SEM : Sta Z h0 "java/util/ImmutableCollections" "EMPTY" "Ljava/lang/Object;" (.ref em)) (EM : Exa Z h0 em "java/lang/Object") (SEL : Sta Z h0 "java/util/ImmutableCollections" "EMPTY_LIST" "Ljava/util/ImmutableCollections$ListN;" (.ref el)) (KE : own_Kids Z h0 em h0.size el []) (M1 : Mir Z "[Ljava/lang/Object;" mr) (SC : Sta Z h0 "java/lang/String" "COMPACT_STRINGS" "Z" (.int cz)) (hcz : ¬ cz = 0) (SF : Sta Z h0 "jdk/internal/util/Preconditions" "SIOOBE_FORMATTER" "Ljava/util/function/BiFunction;" vf) (hvf : vf.isRef = true) (SDE : Sta Z h0 "java/util/ArrayList" "DEFAULTCAPACITY_EMPTY_ELEMENTDATA" "[Ljava/lang/Object;" (.ref de)) (DA : Arv Z h0 de kd (.object "java/lang/Object") (0 : Int32) [] .null) (wT : (Jvm.Cond.instantiable "com/example/tributary/tributary/merge/Tree" 18).before a0 Z = true) {p e s m below meth c s₁} (Bd : BodyLoose p l x (head1 (Jvm.Cond.code x code maxLocals ret :: ws) room_1) code maxLocals ret e s m #[(.int p1), (.int p2), (.int p3), (.int p4)] below meth c s₁) (hml : c.maxLocals = 20) (pb : Int32) (pc : Int32) (xi : Int32) (yi : Int32) (bk : List Addr) (ak : List Addr) (b4 : Addr) (t12 : Addr) (b16 : Addr) (t34 : Addr) (b38 : Addr) (vmc : Vm) (hZ : Z.Warmed39 (s.setVm vmc).vm) (hown : (s.setVm vmc).vm.findClass "com/example/tributary/tributary/merge/TreeContainsPinLaw" = some m.cls) (Tc : State) (Lc0 : List Loc) (hhc : Heap) (Xc : Stand p l e room_1 (s.setVm vmc) m #[(.int p1), (.int p2), (.int p3), (.int p4)] below meth c Tc Lc0 36 159) (ec : Tc.heap = hhc) (Nc : Fr n0 Lc0) (Zc : n0 ≤ hhc.size) (kwc : Nat) (Sc : s.Since vmc kwc) (kpc : kwc ≤ hhc.size) (prec : ∀ t, Steps p.tables e below (Tc.setTop (mkF m 145 #[own_i p1, own_i p2, own_i p3, own_i p4, own_i pb, own_i pc, own_i xi, own_i yi, own_r b4, own_r t12, own_r b16, own_r t34, own_r b38, .unset, .unset, .unset, .unset, .unset, .unset, .unset] [])) t → Steps p.tables e below (s₁.setTop (entryFrame m #[(.int p1), (.int p2), (.int p3), (.int p4)] maxLocals)) t) (g_b4 : n0 ≤ b4) (sz_b4 : h0.size ≤ b4) (g_t12 : n0 ≤ t12) (sz_t12 : h0.size ≤ t12) (g_b16 : n0 ≤ b16) (sz_b16 : h0.size ≤ b16) (g_t34 : n0 ≤ t34) (sz_t34 : h0.size ≤ t34) (g_b38 : n0 ≤ b38) (sz_b38 : h0.size ≤ b38) (Kk : Keep h0 hhc []) (hpb : pb = 0 ∨ pb = 1) (hpc : pc = 0 ∨ pc = 1 ∨ pc = 2) (hxi : own_q4 xi) (hyi : own_q4 yi) (hbk : bk = own_bk pc t12) (hbc : ¬ t34 = t12) (hak : ak = own_ak pb pc (p2 &&& (2 : Int32)) t34 t12) (ALa : own_AL Z hhc de b38 ak) (CHc : CHv Z own_EL vmc hhc) (M_t12 : own_Node Z hhc em t12 [] 1) (M_t34 : own_Node Z hhc em t34 bk (own_fold (fun _ => 1) 1 bk)) :
    ∃ s₂ o, Steps p.tables e below (s₁.setTop (entryFrame m #[(.int p1), (.int p2), (.int p3), (.int p4)] maxLocals)) s₂ ∧ s₂.status = .running ∧ Ended s₂ below o ∧ ∃ v L, o = .returned v ∧ Q_0 Z p1 p2 p3 p4 em el mr de kd h0 n0 v s₂.heap L ∧ ReturnedEndW s o s₂ L room_1.cells room_1.slots := by
  have hx := Bd.exec
  have hby := Bd.bytes
  have hnm := (name_of_methodNamed Bd.named Bd.method).1
  have pre63 : own_G p e below Tc s₁ _ _ := fun t k => prec t (by
    refine XS.aload Xc.here hx rfl (hb hby at_145) rfl rfl ?_
    exact k)
  obtain ⟨_, _, ⟨T64, L64, kk64, nn64⟩, -, Y64, Sx64, gr64, ⟨Lc64, hQ64, l64, y64, z64, CH64⟩, st64⟩ := Jvm.RoadKit.callSS Xc hx (y := own_y10) hown (mvT hZ (own_h hw 27 rfl)) (mvT hZ (own_h hw 28 rfl)) (mvT hZ (own_h hw 29 rfl)) (mvT hZ (own_h hw 30 rfl)) (by decide) (backOfSH (W := 0) (rm_nd l Z a0 hw [] b38 em el mr de ak (own_Sa t12 (own_fold (fun _ => 1) 1 bk)) hhc n0 Zc (own_sta_keep SEM Kk (by intro x hx; cases hx)) (EM.keep Kk) (own_sta_keep SEL Kk (by intro x hx; cases hx)) (own_Kids_re wT KE Kk) M1 (own_sta_keep SC Kk (by intro x hx; cases hx)) hcz (own_sta_keep SF Kk (by intro x hx; cases hx)) hvf (own_sta_keep SDE Kk (by intro x hx; cases hx)) ALa (own_HC (P := fun x => x = t34 ∨ x = t12) (fun x hx => own_ak_mem hak hx) (fun x q => by rcases q with q | q; (rw [q]; exact own_Node_ch M_t34 (Keep.refl _ _) (by rw [own_Sa, if_neg hbc])); (rw [q]; exact own_Node_ch M_t12 (Keep.refl _ _) (by rw [own_Sa, if_pos rfl])))) (own_ak_len hak)) hZ (own_h hw 30 rfl) (own_h hw 29 rfl) (by decide) (by decide) (own_EW hw) CHc) (g := (mkF m 147 #[own_i p1, own_i p2, own_i p3, own_i p4, own_i pb, own_i pc, own_i xi, own_i yi, own_r b4, own_r t12, own_r b16, own_r t34, own_r b38, .unset, .unset, .unset, .unset, .unset, .unset, .unset] [(.ref b38)])) rfl (by rw [hml]; rfl) (argsL := [(.ref b38)]) (rest := []) (lenOf pd__Ljava_util_ArrayList__Lcom_example_tributary_tributary_merge_Tree_ rfl) rfl (by show 2 * 0 + _ ≤ _; exact Nat.le_of_eq rfl) (hb hby at_147) (fun _ _ => ⟨rfl, ec, (by decide : 36 + 15 ≤ _), (by decide : 159 + 60 ≤ _)⟩)
  dsimp only [Pt.U, Pt.locs, Pt.cells, Pt.slots] at Y64 Sx64 gr64 l64 y64 z64 st64 hQ64 CH64
  subst l64 y64 z64
  obtain ⟨X64, S64, hZ, hown⟩ := rebS Sc (Nat.le_trans kpc (Nat.le_of_eq (congrArg Array.size ec.symm))) Y64 Sx64 gr64 hZ hown
  obtain ⟨t64, rfl, N64q, Kc64, g_t64, sx64, Nd64⟩ := hQ64
  have N64 := Fr.app Nc N64q
  have K66 := Kk.trans Kc64 (fun x hx => by cases hx)
  have Z64 : n0 ≤ T64.heap.size := Nat.le_trans Zc Kc64.1
  have kp64 : T64.heap.size ≤ T64.heap.size := Nat.le_refl _
  have e64 : T64.heap = T64.heap := rfl
  have sz_t64 : h0.size ≤ t64 := Nat.le_trans Kk.1 sx64
  have N64_t12 := own_Node_re wT M_t12 Kc64
  have nq_t64_t12 : ¬ t64 = t12 := fun q => Nat.ne_of_lt (Nat.lt_of_lt_of_le M_t12.1.lt sx64) q.symm
  have N64_t34 := own_Node_re wT M_t34 Kc64
  have nq_t64_t34 : ¬ t64 = t34 := fun q => Nat.ne_of_lt (Nat.lt_of_lt_of_le M_t34.1.lt sx64) q.symm
  have N64_t64 := Nd64
  have Kb64 : Keep T64.heap T64.heap [] := Keep.refl _ _
  have pre67 : own_G p e below T64 s₁ _ _ := fun t k => pre63 t (by
    refine st64.trans ?_
    refine XS.astore X64.here hx rfl (hb hby at_150) rfl rfl (l' := #[own_i p1, own_i p2, own_i p3, own_i p4, own_i pb, own_i pc, own_i xi, own_i yi, own_r b4, own_r t12, own_r b16, own_r t34, own_r b38, own_r t64, .unset, .unset, .unset, .unset, .unset, .unset]) rfl ?_
    exact k)
  obtain ⟨T68, h68, X68, e68, E68, A68, D68, -, st68⟩ := newO X64 hx hZ hown (own_h hw 1 rfl) (own_h hw 2 rfl) (own_h hw 3 rfl) e64 (g := (mkF m 152 #[own_i p1, own_i p2, own_i p3, own_i p4, own_i pb, own_i pc, own_i xi, own_i yi, own_r b4, own_r t12, own_r b16, own_r t34, own_r b38, own_r t64, .unset, .unset, .unset, .unset, .unset, .unset] [])) rfl (hb hby at_152) (by decide) (by decide)
  obtain ⟨b68, g68⟩ : ∃ z, z = T64.heap.size := ⟨_, rfl⟩
  rw [← g68] at A68 D68 st68
  have g_b68 : n0 ≤ b68 := Nat.le_trans Z64 (Nat.le_of_eq g68.symm)
  have sz_b68 : h0.size ≤ b68 := Nat.le_trans K66.1 (Nat.le_of_eq g68.symm)
  have szb_b68 : T64.heap.size ≤ b68 := Nat.le_trans Kb64.1 (Nat.le_of_eq g68.symm)
  have Z68 : n0 ≤ h68.size := Nat.le_trans Z64 E68.1
  have kp68 : T64.heap.size ≤ h68.size := Nat.le_trans kp64 E68.1
  have K70 := K66.ext E68
  have K71 := Kb64.ext E68
  have F68_modCount : Fld Z h68 b68 "java/util/AbstractList" "modCount" "I" (.int (0 : Int32)) := D68 (Or.inl (own_h hw 23 rfl)) (ty := .int) (by decide)
  have F68_elementData : Fld Z h68 b68 "java/util/ArrayList" "elementData" "[Ljava/lang/Object;" .null := D68 (Or.inl (own_h hw 26 rfl)) (ty := (.array (.object "java/lang/Object"))) (by decide)
  have F68_size : Fld Z h68 b68 "java/util/ArrayList" "size" "I" (.int (0 : Int32)) := D68 (Or.inl (own_h hw 80 rfl)) (ty := .int) (by decide)
  have pre72 : own_G p e below T68 s₁ _ _ := fun t k => pre67 t (by
    refine st68 _ ?_
    refine XS.dup X68.here hx rfl (hb hby at_155) rfl rfl ?_
    exact k)
  obtain ⟨_, _, ⟨T73, L73, kk73, nn73⟩, -, X73, ⟨Lc73, hQ73, l73, y73, z73⟩, st73⟩ := X68.specialBack hx (y := own_y3) rfl hown (mvT hZ (own_h hw 4 rfl)) (mvT hZ (own_h hw 5 rfl)) (mvT hZ (own_h hw 6 rfl)) (by decide) (backOf (W := 1) (rm_ali l Z a0 hw [] b68 de h68 n0 Z68 (own_sta_keep SDE K70 (by intro x hx; cases hx)) A68 F68_modCount F68_elementData F68_size g_b68) hZ (own_h hw 6 rfl) (own_h hw 3 rfl) (by decide) (by decide)) (g := (mkF m 156 #[own_i p1, own_i p2, own_i p3, own_i p4, own_i pb, own_i pc, own_i xi, own_i yi, own_r b4, own_r t12, own_r b16, own_r t34, own_r b38, own_r t64, .unset, .unset, .unset, .unset, .unset, .unset] [(.ref b68), (.ref b68)])) rfl (by rw [hml]; rfl) (Steps.refl _) (a := b68) (argsL := []) (rest := [(.ref b68)]) (lenOf pd___V rfl) rfl (by show 2 * 0 + _ ≤ _; exact Nat.le_of_eq rfl) (hb hby at_156) (fun _ _ => ⟨rfl, e68, (by decide : 52 + 0 ≤ _), (by decide : 222 + 0 ≤ _)⟩)
  dsimp only [Pt.U, Pt.locs, Pt.cells, Pt.slots] at X73 l73 y73 z73 st73 hQ73
  subst l73 y73 z73
  obtain ⟨rfl, N73q, Kc73, Fm73, Fe73, Fz73⟩ := hQ73
  have N73 := Fr.app N64 N73q
  have f74_0 := A68.keep Kc73
  have K75 := K70.trans Kc73 (fun x hx => by cases List.mem_singleton.mp hx; exact (Or.inr sz_b68))
  have K76 := K71.trans Kc73 (fun x hx => by cases List.mem_singleton.mp hx; exact (Or.inr szb_b68))
  have Z73 : n0 ≤ T73.heap.size := Nat.le_trans Z68 Kc73.1
  have kp73 : T64.heap.size ≤ T73.heap.size := Nat.le_trans kp68 Kc73.1
  have e73 : T73.heap = T73.heap := rfl
  have AQ73 : own_AL Z T73.heap de b68 [] := ⟨f74_0, ⟨_, Fm73⟩, Fz73, Or.inl ⟨rfl, Fe73⟩⟩
  have pre77 : own_G p e below T73 s₁ _ _ := fun t k => pre72 t (by
    refine st73.trans ?_
    refine XS.astore X73.here hx rfl (hb hby at_159) rfl rfl (l' := #[own_i p1, own_i p2, own_i p3, own_i p4, own_i pb, own_i pc, own_i xi, own_i yi, own_r b4, own_r t12, own_r b16, own_r t34, own_r b38, own_r t64, own_r b68, .unset, .unset, .unset, .unset, .unset]) rfl ?_
    refine XS.iloadN X73.here hx rfl (hb hby at_161) rfl ?_
    refine XS.iconst X73.here hx rfl (hb hby at_162) ?_
    refine XS.iand X73.here hx rfl (hb hby at_163) rfl ?_
    exact k)
  by_cases w1 : (p2 &&& (1 : Int32)) = 0
  · skip
    have pre78 : own_G p e below T73 s₁ _ _ := fun t k => pre77 t (by
      refine XS.ifNo X73.here hx rfl (hb hby at_164) rfl (XT.i0_ne_f w1) ?_
      refine XS.aload X73.here hx rfl (hb hby at_167) rfl rfl ?_
      refine XS.aload X73.here hx rfl (hb hby at_169) rfl rfl ?_
      exact k)
    have Ee79 := AQ73.1
    obtain ⟨cq80, kq80, q80a, q80b, q80c⟩ := isOf hZ e73 Ee79
    obtain ⟨_, _, ⟨T80, L80, kk80, nn80⟩, -, X80, ⟨Lc80, hQ80, l80, y80, z80⟩, st80⟩ := X73.virtualBack hx (y := own_y1) (z := own_y1) hown (mvT hZ (own_h hw 188 rfl)) (mvT hZ (own_h hw 189 rfl)) (notFace_of_selects (args := #[]) (mvT hZ (own_h hw 191 rfl))) (mvT hZ (own_h hw 191 rfl)) (mvT hZ (own_h hw 190 rfl)) (by decide) (backOf (W := 0) (rm_ad l Z a0 hw [] b68 t64 de kd [] T73.heap n0 Z73 (own_sta_keep SDE K75 (by intro x hx; cases hx)) (DA.keep K75 (by simp)) AQ73 (N64_t64.1.keep K76) (by simp) g_b68) hZ (own_h hw 192 rfl) (own_h hw 3 rfl) (by decide) (by decide)) q80a q80c (g := (mkF m 171 #[own_i p1, own_i p2, own_i p3, own_i p4, own_i pb, own_i pc, own_i xi, own_i yi, own_r b4, own_r t12, own_r b16, own_r t34, own_r b38, own_r t64, own_r b68, .unset, .unset, .unset, .unset, .unset] [(.ref t64), (.ref b68)])) rfl (by rw [hml]; rfl) (Steps.refl _) (argsL := [(.ref t64)]) (rest := []) (lenOf pd__Ljava_lang_Object__Z rfl) rfl (by show 2 * 0 + _ ≤ _; exact Nat.le_of_eq rfl) (hb hby at_171) (fun _ _ => ⟨rfl, e73, (by decide : 52 + 1 ≤ _), (by decide : 222 + 10 ≤ _)⟩)
    dsimp only [Pt.U, Pt.locs, Pt.cells, Pt.slots] at X80 l80 y80 z80 st80 hQ80
    subst l80 y80 z80
    obtain ⟨ws80, rfl, N80q, Kc80, side80, AX80⟩ := hQ80
    have N80 := Fr.app N73 N80q
    have K82 := K75.trans Kc80 (fun x hx => Or.inr (Nat.le_trans sz_b68 (side80 x hx)))
    have K83 := K76.trans Kc80 (fun x hx => Or.inr (Nat.le_trans szb_b68 (side80 x hx)))
    have Z80 : n0 ≤ T80.heap.size := Nat.le_trans Z73 Kc80.1
    have kp80 : T64.heap.size ≤ T80.heap.size := Nat.le_trans kp73 Kc80.1
    have e80 : T80.heap = T80.heap := rfl
    have pre84 : own_G p e below T80 s₁ _ _ := fun t k => pre78 t (by
      refine st80.trans ?_
      refine XT.pop X80.here hx rfl (hb hby at_174) rfl rfl ?_
      refine XS.iload X80.here hx rfl (hb hby at_175) rfl ?_
      exact k)
    by_cases k1 : pb = (0 : Int32)
    · skip
      have pre85 : own_G p e below T80 s₁ _ _ := fun t k => pre84 t (by
        refine XS.ifNo X80.here hx rfl (hb hby at_177) rfl (XT.i0_ne_f k1) ?_
        refine XS.aload X80.here hx rfl (hb hby at_180) rfl rfl ?_
        refine XS.aload X80.here hx rfl (hb hby at_182) rfl rfl ?_
        exact k)
      have Ee86 := AX80.1
      obtain ⟨cq87, kq87, q87a, q87b, q87c⟩ := isOf hZ e80 Ee86
      obtain ⟨_, _, ⟨T87, L87, kk87, nn87⟩, -, X87, ⟨Lc87, hQ87, l87, y87, z87⟩, st87⟩ := X80.virtualBack hx (y := own_y1) (z := own_y1) hown (mvT hZ (own_h hw 188 rfl)) (mvT hZ (own_h hw 189 rfl)) (notFace_of_selects (args := #[]) (mvT hZ (own_h hw 191 rfl))) (mvT hZ (own_h hw 191 rfl)) (mvT hZ (own_h hw 190 rfl)) (by decide) (backOf (W := 0) (rm_ad l Z a0 hw [] b68 t34 de kd [t64] T80.heap n0 Z80 (own_sta_keep SDE K82 (by intro x hx; cases hx)) (DA.keep K82 (by simp)) AX80 (N64_t34.1.keep K83) (by simp) g_b68) hZ (own_h hw 192 rfl) (own_h hw 3 rfl) (by decide) (by decide)) q87a q87c (g := (mkF m 184 #[own_i p1, own_i p2, own_i p3, own_i p4, own_i pb, own_i pc, own_i xi, own_i yi, own_r b4, own_r t12, own_r b16, own_r t34, own_r b38, own_r t64, own_r b68, .unset, .unset, .unset, .unset, .unset] [(.ref t34), (.ref b68)])) rfl (by rw [hml]; rfl) (Steps.refl _) (argsL := [(.ref t34)]) (rest := []) (lenOf pd__Ljava_lang_Object__Z rfl) rfl (by show 2 * 0 + _ ≤ _; exact Nat.le_of_eq rfl) (hb hby at_184) (fun _ _ => ⟨rfl, e80, (by decide : 53 + 1 ≤ _), (by decide : 232 + 10 ≤ _)⟩)
      dsimp only [Pt.U, Pt.locs, Pt.cells, Pt.slots] at X87 l87 y87 z87 st87 hQ87
      subst l87 y87 z87
      obtain ⟨ws87, rfl, N87q, Kc87, side87, AX87⟩ := hQ87
      have N87 := Fr.app N80 N87q
      have K89 := K82.trans Kc87 (fun x hx => Or.inr (Nat.le_trans sz_b68 (side87 x hx)))
      have K90 := K83.trans Kc87 (fun x hx => Or.inr (Nat.le_trans szb_b68 (side87 x hx)))
      have Z87 : n0 ≤ T87.heap.size := Nat.le_trans Z80 Kc87.1
      have kp87 : T64.heap.size ≤ T87.heap.size := Nat.le_trans kp80 Kc87.1
      have e87 : T87.heap = T87.heap := rfl
      have pre91 : own_G p e below T87 s₁ _ _ := fun t k => pre85 t (by
        refine st87.trans ?_
        refine XT.pop X87.here hx rfl (hb hby at_187) rfl rfl ?_
        refine XS.iload X87.here hx rfl (hb hby at_188) rfl ?_
        exact k)
      by_cases k2 : pc = (0 : Int32)
      · skip
        have pre92 : own_G p e below T87 s₁ _ _ := fun t k => pre91 t (by
          refine XS.ifNo X87.here hx rfl (hb hby at_190) rfl (XT.i0_ne_f k2) ?_
          refine XS.aload X87.here hx rfl (hb hby at_193) rfl rfl ?_
          refine XS.aload X87.here hx rfl (hb hby at_195) rfl rfl ?_
          exact k)
        have Ee93 := AX87.1
        obtain ⟨cq94, kq94, q94a, q94b, q94c⟩ := isOf hZ e87 Ee93
        obtain ⟨_, _, ⟨T94, L94, kk94, nn94⟩, -, X94, ⟨Lc94, hQ94, l94, y94, z94⟩, st94⟩ := X87.virtualBack hx (y := own_y1) (z := own_y1) hown (mvT hZ (own_h hw 188 rfl)) (mvT hZ (own_h hw 189 rfl)) (notFace_of_selects (args := #[]) (mvT hZ (own_h hw 191 rfl))) (mvT hZ (own_h hw 191 rfl)) (mvT hZ (own_h hw 190 rfl)) (by decide) (backOf (W := 0) (rm_ad l Z a0 hw [] b68 t12 de kd [t64, t34] T87.heap n0 Z87 (own_sta_keep SDE K89 (by intro x hx; cases hx)) (DA.keep K89 (by simp)) AX87 (N64_t12.1.keep K90) (by simp) g_b68) hZ (own_h hw 192 rfl) (own_h hw 3 rfl) (by decide) (by decide)) q94a q94c (g := (mkF m 197 #[own_i p1, own_i p2, own_i p3, own_i p4, own_i pb, own_i pc, own_i xi, own_i yi, own_r b4, own_r t12, own_r b16, own_r t34, own_r b38, own_r t64, own_r b68, .unset, .unset, .unset, .unset, .unset] [(.ref t12), (.ref b68)])) rfl (by rw [hml]; rfl) (Steps.refl _) (argsL := [(.ref t12)]) (rest := []) (lenOf pd__Ljava_lang_Object__Z rfl) rfl (by show 2 * 0 + _ ≤ _; exact Nat.le_of_eq rfl) (hb hby at_197) (fun _ _ => ⟨rfl, e87, (by decide : 54 + 1 ≤ _), (by decide : 242 + 10 ≤ _)⟩)
        dsimp only [Pt.U, Pt.locs, Pt.cells, Pt.slots] at X94 l94 y94 z94 st94 hQ94
        subst l94 y94 z94
        obtain ⟨ws94, rfl, N94q, Kc94, side94, AX94⟩ := hQ94
        have N94 := Fr.app N87 N94q
        have K96 := K89.trans Kc94 (fun x hx => Or.inr (Nat.le_trans sz_b68 (side94 x hx)))
        have K97 := K90.trans Kc94 (fun x hx => Or.inr (Nat.le_trans szb_b68 (side94 x hx)))
        have Z94 : n0 ≤ T94.heap.size := Nat.le_trans Z87 Kc94.1
        have kp94 : T64.heap.size ≤ T94.heap.size := Nat.le_trans kp87 Kc94.1
        have e94 : T94.heap = T94.heap := rfl
        have pre98 : own_G p e below T94 s₁ _ _ := fun t k => pre92 t (by
          refine st94.trans ?_
          refine XT.pop X94.here hx rfl (hb hby at_200) rfl rfl ?_
          refine XS.goto X94.here hx rfl (pc0 := 201) (pc' := 238) rfl (hb hby at_201) (by decide) (by decide) ?_
          exact k)
        exact rs_0_3 l Z a0 hw ws p1 p2 p3 p4 em el mr de kd h0 n0 cz vf SEM EM SEL KE M1 SC hcz SF hvf SDE DA wT Bd hml pb pc xi yi bk ak ([t64, t34, t12]) b4 t12 b16 t34 b38 t64 b68 _ hZ hown T94 _ T94.heap X94 e94 N94 Z94 _ S64 kp94 pre98 g_b4 sz_b4 g_t12 sz_t12 g_b16 sz_b16 g_t34 sz_t34 g_b38 sz_b38 g_t64 sz_t64 g_b68 sz_b68 K96 hpb hpc hxi hyi hbk hbc nq_t64_t12 nq_t64_t34 hak ((by simp [own_rk, w1, k1, k2])) AX94 ((CHv.keep K97 (fun x hx => by cases hx) CH64.1)) ((own_Node_re wT N64_t12 K97)) ((own_Node_re wT N64_t34 K97)) ((own_Node_re wT N64_t64 K97))
      · skip
        have pre99 : own_G p e below T87 s₁ _ _ := fun t k => pre91 t (by
          refine XS.ifYes X87.here hx rfl (pc0 := 190) (pc' := 238) rfl (hb hby at_190) rfl (XT.i0_ne_t k2) (by decide) (by decide) ?_
          exact k)
        exact rs_0_3 l Z a0 hw ws p1 p2 p3 p4 em el mr de kd h0 n0 cz vf SEM EM SEL KE M1 SC hcz SF hvf SDE DA wT Bd hml pb pc xi yi bk ak ([t64, t34]) b4 t12 b16 t34 b38 t64 b68 _ hZ hown T87 _ T87.heap (X87.more (cells' := 55) (slots' := 252) (by decide) (by decide)) e87 N87 Z87 _ S64 kp87 pre99 g_b4 sz_b4 g_t12 sz_t12 g_b16 sz_b16 g_t34 sz_t34 g_b38 sz_b38 g_t64 sz_t64 g_b68 sz_b68 K89 hpb hpc hxi hyi hbk hbc nq_t64_t12 nq_t64_t34 hak ((by simp [own_rk, w1, k1, k2])) AX87 ((CHv.keep K90 (fun x hx => by cases hx) CH64.1)) ((own_Node_re wT N64_t12 K90)) ((own_Node_re wT N64_t34 K90)) ((own_Node_re wT N64_t64 K90))
    · skip
      have pre100 : own_G p e below T80 s₁ _ _ := fun t k => pre84 t (by
        refine XS.ifYes X80.here hx rfl (pc0 := 177) (pc' := 188) rfl (hb hby at_177) rfl (XT.i0_ne_t k1) (by decide) (by decide) ?_
        refine XS.iload X80.here hx rfl (hb hby at_188) rfl ?_
        exact k)
      by_cases k2 : pc = (0 : Int32)
      · skip
        have pre101 : own_G p e below T80 s₁ _ _ := fun t k => pre100 t (by
          refine XS.ifNo X80.here hx rfl (hb hby at_190) rfl (XT.i0_ne_f k2) ?_
          refine XS.aload X80.here hx rfl (hb hby at_193) rfl rfl ?_
          refine XS.aload X80.here hx rfl (hb hby at_195) rfl rfl ?_
          exact k)
        have Ee102 := AX80.1
        obtain ⟨cq103, kq103, q103a, q103b, q103c⟩ := isOf hZ e80 Ee102
        obtain ⟨_, _, ⟨T103, L103, kk103, nn103⟩, -, X103, ⟨Lc103, hQ103, l103, y103, z103⟩, st103⟩ := X80.virtualBack hx (y := own_y1) (z := own_y1) hown (mvT hZ (own_h hw 188 rfl)) (mvT hZ (own_h hw 189 rfl)) (notFace_of_selects (args := #[]) (mvT hZ (own_h hw 191 rfl))) (mvT hZ (own_h hw 191 rfl)) (mvT hZ (own_h hw 190 rfl)) (by decide) (backOf (W := 0) (rm_ad l Z a0 hw [] b68 t12 de kd [t64] T80.heap n0 Z80 (own_sta_keep SDE K82 (by intro x hx; cases hx)) (DA.keep K82 (by simp)) AX80 (N64_t12.1.keep K83) (by simp) g_b68) hZ (own_h hw 192 rfl) (own_h hw 3 rfl) (by decide) (by decide)) q103a q103c (g := (mkF m 197 #[own_i p1, own_i p2, own_i p3, own_i p4, own_i pb, own_i pc, own_i xi, own_i yi, own_r b4, own_r t12, own_r b16, own_r t34, own_r b38, own_r t64, own_r b68, .unset, .unset, .unset, .unset, .unset] [(.ref t12), (.ref b68)])) rfl (by rw [hml]; rfl) (Steps.refl _) (argsL := [(.ref t12)]) (rest := []) (lenOf pd__Ljava_lang_Object__Z rfl) rfl (by show 2 * 0 + _ ≤ _; exact Nat.le_of_eq rfl) (hb hby at_197) (fun _ _ => ⟨rfl, e80, (by decide : 53 + 1 ≤ _), (by decide : 232 + 10 ≤ _)⟩)
        dsimp only [Pt.U, Pt.locs, Pt.cells, Pt.slots] at X103 l103 y103 z103 st103 hQ103
        subst l103 y103 z103
        obtain ⟨ws103, rfl, N103q, Kc103, side103, AX103⟩ := hQ103
        have N103 := Fr.app N80 N103q
        have K105 := K82.trans Kc103 (fun x hx => Or.inr (Nat.le_trans sz_b68 (side103 x hx)))
        have K106 := K83.trans Kc103 (fun x hx => Or.inr (Nat.le_trans szb_b68 (side103 x hx)))
        have Z103 : n0 ≤ T103.heap.size := Nat.le_trans Z80 Kc103.1
        have kp103 : T64.heap.size ≤ T103.heap.size := Nat.le_trans kp80 Kc103.1
        have e103 : T103.heap = T103.heap := rfl
        have pre107 : own_G p e below T103 s₁ _ _ := fun t k => pre101 t (by
          refine st103.trans ?_
          refine XT.pop X103.here hx rfl (hb hby at_200) rfl rfl ?_
          refine XS.goto X103.here hx rfl (pc0 := 201) (pc' := 238) rfl (hb hby at_201) (by decide) (by decide) ?_
          exact k)
        exact rs_0_3 l Z a0 hw ws p1 p2 p3 p4 em el mr de kd h0 n0 cz vf SEM EM SEL KE M1 SC hcz SF hvf SDE DA wT Bd hml pb pc xi yi bk ak ([t64, t12]) b4 t12 b16 t34 b38 t64 b68 _ hZ hown T103 _ T103.heap (X103.more (cells' := 55) (slots' := 252) (by decide) (by decide)) e103 N103 Z103 _ S64 kp103 pre107 g_b4 sz_b4 g_t12 sz_t12 g_b16 sz_b16 g_t34 sz_t34 g_b38 sz_b38 g_t64 sz_t64 g_b68 sz_b68 K105 hpb hpc hxi hyi hbk hbc nq_t64_t12 nq_t64_t34 hak ((by simp [own_rk, w1, k1, k2])) AX103 ((CHv.keep K106 (fun x hx => by cases hx) CH64.1)) ((own_Node_re wT N64_t12 K106)) ((own_Node_re wT N64_t34 K106)) ((own_Node_re wT N64_t64 K106))
      · skip
        have pre108 : own_G p e below T80 s₁ _ _ := fun t k => pre100 t (by
          refine XS.ifYes X80.here hx rfl (pc0 := 190) (pc' := 238) rfl (hb hby at_190) rfl (XT.i0_ne_t k2) (by decide) (by decide) ?_
          exact k)
        exact rs_0_3 l Z a0 hw ws p1 p2 p3 p4 em el mr de kd h0 n0 cz vf SEM EM SEL KE M1 SC hcz SF hvf SDE DA wT Bd hml pb pc xi yi bk ak ([t64]) b4 t12 b16 t34 b38 t64 b68 _ hZ hown T80 _ T80.heap (X80.more (cells' := 55) (slots' := 252) (by decide) (by decide)) e80 N80 Z80 _ S64 kp80 pre108 g_b4 sz_b4 g_t12 sz_t12 g_b16 sz_b16 g_t34 sz_t34 g_b38 sz_b38 g_t64 sz_t64 g_b68 sz_b68 K82 hpb hpc hxi hyi hbk hbc nq_t64_t12 nq_t64_t34 hak ((by simp [own_rk, w1, k1, k2])) AX80 ((CHv.keep K83 (fun x hx => by cases hx) CH64.1)) ((own_Node_re wT N64_t12 K83)) ((own_Node_re wT N64_t34 K83)) ((own_Node_re wT N64_t64 K83))
  · skip
    have pre109 : own_G p e below T73 s₁ _ _ := fun t k => pre77 t (by
      refine XS.ifYes X73.here hx rfl (pc0 := 164) (pc' := 204) rfl (hb hby at_164) rfl (XT.i0_ne_t w1) (by decide) (by decide) ?_
      refine XS.iload X73.here hx rfl (hb hby at_204) rfl ?_
      exact k)
    by_cases k2 : pc = (0 : Int32)
    · skip
      have pre110 : own_G p e below T73 s₁ _ _ := fun t k => pre109 t (by
        refine XS.ifNo X73.here hx rfl (hb hby at_206) rfl (XT.i0_ne_f k2) ?_
        refine XS.aload X73.here hx rfl (hb hby at_209) rfl rfl ?_
        refine XS.aload X73.here hx rfl (hb hby at_211) rfl rfl ?_
        exact k)
      have Ee111 := AQ73.1
      obtain ⟨cq112, kq112, q112a, q112b, q112c⟩ := isOf hZ e73 Ee111
      obtain ⟨_, _, ⟨T112, L112, kk112, nn112⟩, -, X112, ⟨Lc112, hQ112, l112, y112, z112⟩, st112⟩ := X73.virtualBack hx (y := own_y1) (z := own_y1) hown (mvT hZ (own_h hw 188 rfl)) (mvT hZ (own_h hw 189 rfl)) (notFace_of_selects (args := #[]) (mvT hZ (own_h hw 191 rfl))) (mvT hZ (own_h hw 191 rfl)) (mvT hZ (own_h hw 190 rfl)) (by decide) (backOf (W := 0) (rm_ad l Z a0 hw [] b68 t12 de kd [] T73.heap n0 Z73 (own_sta_keep SDE K75 (by intro x hx; cases hx)) (DA.keep K75 (by simp)) AQ73 (N64_t12.1.keep K76) (by simp) g_b68) hZ (own_h hw 192 rfl) (own_h hw 3 rfl) (by decide) (by decide)) q112a q112c (g := (mkF m 213 #[own_i p1, own_i p2, own_i p3, own_i p4, own_i pb, own_i pc, own_i xi, own_i yi, own_r b4, own_r t12, own_r b16, own_r t34, own_r b38, own_r t64, own_r b68, .unset, .unset, .unset, .unset, .unset] [(.ref t12), (.ref b68)])) rfl (by rw [hml]; rfl) (Steps.refl _) (argsL := [(.ref t12)]) (rest := []) (lenOf pd__Ljava_lang_Object__Z rfl) rfl (by show 2 * 0 + _ ≤ _; exact Nat.le_of_eq rfl) (hb hby at_213) (fun _ _ => ⟨rfl, e73, (by decide : 52 + 1 ≤ _), (by decide : 222 + 10 ≤ _)⟩)
      dsimp only [Pt.U, Pt.locs, Pt.cells, Pt.slots] at X112 l112 y112 z112 st112 hQ112
      subst l112 y112 z112
      obtain ⟨ws112, rfl, N112q, Kc112, side112, AX112⟩ := hQ112
      have N112 := Fr.app N73 N112q
      have K114 := K75.trans Kc112 (fun x hx => Or.inr (Nat.le_trans sz_b68 (side112 x hx)))
      have K115 := K76.trans Kc112 (fun x hx => Or.inr (Nat.le_trans szb_b68 (side112 x hx)))
      have Z112 : n0 ≤ T112.heap.size := Nat.le_trans Z73 Kc112.1
      have kp112 : T64.heap.size ≤ T112.heap.size := Nat.le_trans kp73 Kc112.1
      have e112 : T112.heap = T112.heap := rfl
      have pre116 : own_G p e below T112 s₁ _ _ := fun t k => pre110 t (by
        refine st112.trans ?_
        refine XT.pop X112.here hx rfl (hb hby at_216) rfl rfl ?_
        refine XS.iload X112.here hx rfl (hb hby at_217) rfl ?_
        exact k)
      by_cases k1 : pb = (0 : Int32)
      · skip
        have pre117 : own_G p e below T112 s₁ _ _ := fun t k => pre116 t (by
          refine XS.ifNo X112.here hx rfl (hb hby at_219) rfl (XT.i0_ne_f k1) ?_
          refine XS.aload X112.here hx rfl (hb hby at_222) rfl rfl ?_
          refine XS.aload X112.here hx rfl (hb hby at_224) rfl rfl ?_
          exact k)
        have Ee118 := AX112.1
        obtain ⟨cq119, kq119, q119a, q119b, q119c⟩ := isOf hZ e112 Ee118
        obtain ⟨_, _, ⟨T119, L119, kk119, nn119⟩, -, X119, ⟨Lc119, hQ119, l119, y119, z119⟩, st119⟩ := X112.virtualBack hx (y := own_y1) (z := own_y1) hown (mvT hZ (own_h hw 188 rfl)) (mvT hZ (own_h hw 189 rfl)) (notFace_of_selects (args := #[]) (mvT hZ (own_h hw 191 rfl))) (mvT hZ (own_h hw 191 rfl)) (mvT hZ (own_h hw 190 rfl)) (by decide) (backOf (W := 0) (rm_ad l Z a0 hw [] b68 t34 de kd [t12] T112.heap n0 Z112 (own_sta_keep SDE K114 (by intro x hx; cases hx)) (DA.keep K114 (by simp)) AX112 (N64_t34.1.keep K115) (by simp) g_b68) hZ (own_h hw 192 rfl) (own_h hw 3 rfl) (by decide) (by decide)) q119a q119c (g := (mkF m 226 #[own_i p1, own_i p2, own_i p3, own_i p4, own_i pb, own_i pc, own_i xi, own_i yi, own_r b4, own_r t12, own_r b16, own_r t34, own_r b38, own_r t64, own_r b68, .unset, .unset, .unset, .unset, .unset] [(.ref t34), (.ref b68)])) rfl (by rw [hml]; rfl) (Steps.refl _) (argsL := [(.ref t34)]) (rest := []) (lenOf pd__Ljava_lang_Object__Z rfl) rfl (by show 2 * 0 + _ ≤ _; exact Nat.le_of_eq rfl) (hb hby at_226) (fun _ _ => ⟨rfl, e112, (by decide : 53 + 1 ≤ _), (by decide : 232 + 10 ≤ _)⟩)
        dsimp only [Pt.U, Pt.locs, Pt.cells, Pt.slots] at X119 l119 y119 z119 st119 hQ119
        subst l119 y119 z119
        obtain ⟨ws119, rfl, N119q, Kc119, side119, AX119⟩ := hQ119
        have N119 := Fr.app N112 N119q
        have K121 := K114.trans Kc119 (fun x hx => Or.inr (Nat.le_trans sz_b68 (side119 x hx)))
        have K122 := K115.trans Kc119 (fun x hx => Or.inr (Nat.le_trans szb_b68 (side119 x hx)))
        have Z119 : n0 ≤ T119.heap.size := Nat.le_trans Z112 Kc119.1
        have kp119 : T64.heap.size ≤ T119.heap.size := Nat.le_trans kp112 Kc119.1
        have e119 : T119.heap = T119.heap := rfl
        have pre123 : own_G p e below T119 s₁ _ _ := fun t k => pre117 t (by
          refine st119.trans ?_
          refine XT.pop X119.here hx rfl (hb hby at_229) rfl rfl ?_
          refine XS.aload X119.here hx rfl (hb hby at_230) rfl rfl ?_
          refine XS.aload X119.here hx rfl (hb hby at_232) rfl rfl ?_
          exact k)
        have Ee124 := AX119.1
        obtain ⟨cq125, kq125, q125a, q125b, q125c⟩ := isOf hZ e119 Ee124
        obtain ⟨_, _, ⟨T125, L125, kk125, nn125⟩, -, X125, ⟨Lc125, hQ125, l125, y125, z125⟩, st125⟩ := X119.virtualBack hx (y := own_y1) (z := own_y1) hown (mvT hZ (own_h hw 188 rfl)) (mvT hZ (own_h hw 189 rfl)) (notFace_of_selects (args := #[]) (mvT hZ (own_h hw 191 rfl))) (mvT hZ (own_h hw 191 rfl)) (mvT hZ (own_h hw 190 rfl)) (by decide) (backOf (W := 0) (rm_ad l Z a0 hw [] b68 t64 de kd [t12, t34] T119.heap n0 Z119 (own_sta_keep SDE K121 (by intro x hx; cases hx)) (DA.keep K121 (by simp)) AX119 (N64_t64.1.keep K122) (by simp) g_b68) hZ (own_h hw 192 rfl) (own_h hw 3 rfl) (by decide) (by decide)) q125a q125c (g := (mkF m 234 #[own_i p1, own_i p2, own_i p3, own_i p4, own_i pb, own_i pc, own_i xi, own_i yi, own_r b4, own_r t12, own_r b16, own_r t34, own_r b38, own_r t64, own_r b68, .unset, .unset, .unset, .unset, .unset] [(.ref t64), (.ref b68)])) rfl (by rw [hml]; rfl) (Steps.refl _) (argsL := [(.ref t64)]) (rest := []) (lenOf pd__Ljava_lang_Object__Z rfl) rfl (by show 2 * 0 + _ ≤ _; exact Nat.le_of_eq rfl) (hb hby at_234) (fun _ _ => ⟨rfl, e119, (by decide : 54 + 1 ≤ _), (by decide : 242 + 10 ≤ _)⟩)
        dsimp only [Pt.U, Pt.locs, Pt.cells, Pt.slots] at X125 l125 y125 z125 st125 hQ125
        subst l125 y125 z125
        obtain ⟨ws125, rfl, N125q, Kc125, side125, AX125⟩ := hQ125
        have N125 := Fr.app N119 N125q
        have K127 := K121.trans Kc125 (fun x hx => Or.inr (Nat.le_trans sz_b68 (side125 x hx)))
        have K128 := K122.trans Kc125 (fun x hx => Or.inr (Nat.le_trans szb_b68 (side125 x hx)))
        have Z125 : n0 ≤ T125.heap.size := Nat.le_trans Z119 Kc125.1
        have kp125 : T64.heap.size ≤ T125.heap.size := Nat.le_trans kp119 Kc125.1
        have e125 : T125.heap = T125.heap := rfl
        have pre129 : own_G p e below T125 s₁ _ _ := fun t k => pre123 t (by
          refine st125.trans ?_
          refine XT.pop X125.here hx rfl (hb hby at_237) rfl rfl ?_
          exact k)
        exact rs_0_3 l Z a0 hw ws p1 p2 p3 p4 em el mr de kd h0 n0 cz vf SEM EM SEL KE M1 SC hcz SF hvf SDE DA wT Bd hml pb pc xi yi bk ak ([t12, t34, t64]) b4 t12 b16 t34 b38 t64 b68 _ hZ hown T125 _ T125.heap (X125.more (cells' := 55) (slots' := 252) (by decide) (by decide)) e125 N125 Z125 _ S64 kp125 pre129 g_b4 sz_b4 g_t12 sz_t12 g_b16 sz_b16 g_t34 sz_t34 g_b38 sz_b38 g_t64 sz_t64 g_b68 sz_b68 K127 hpb hpc hxi hyi hbk hbc nq_t64_t12 nq_t64_t34 hak ((by simp [own_rk, w1, k1, k2])) AX125 ((CHv.keep K128 (fun x hx => by cases hx) CH64.1)) ((own_Node_re wT N64_t12 K128)) ((own_Node_re wT N64_t34 K128)) ((own_Node_re wT N64_t64 K128))
      · skip
        have pre130 : own_G p e below T112 s₁ _ _ := fun t k => pre116 t (by
          refine XS.ifYes X112.here hx rfl (pc0 := 219) (pc' := 230) rfl (hb hby at_219) rfl (XT.i0_ne_t k1) (by decide) (by decide) ?_
          refine XS.aload X112.here hx rfl (hb hby at_230) rfl rfl ?_
          refine XS.aload X112.here hx rfl (hb hby at_232) rfl rfl ?_
          exact k)
        have Ee131 := AX112.1
        obtain ⟨cq132, kq132, q132a, q132b, q132c⟩ := isOf hZ e112 Ee131
        obtain ⟨_, _, ⟨T132, L132, kk132, nn132⟩, -, X132, ⟨Lc132, hQ132, l132, y132, z132⟩, st132⟩ := X112.virtualBack hx (y := own_y1) (z := own_y1) hown (mvT hZ (own_h hw 188 rfl)) (mvT hZ (own_h hw 189 rfl)) (notFace_of_selects (args := #[]) (mvT hZ (own_h hw 191 rfl))) (mvT hZ (own_h hw 191 rfl)) (mvT hZ (own_h hw 190 rfl)) (by decide) (backOf (W := 0) (rm_ad l Z a0 hw [] b68 t64 de kd [t12] T112.heap n0 Z112 (own_sta_keep SDE K114 (by intro x hx; cases hx)) (DA.keep K114 (by simp)) AX112 (N64_t64.1.keep K115) (by simp) g_b68) hZ (own_h hw 192 rfl) (own_h hw 3 rfl) (by decide) (by decide)) q132a q132c (g := (mkF m 234 #[own_i p1, own_i p2, own_i p3, own_i p4, own_i pb, own_i pc, own_i xi, own_i yi, own_r b4, own_r t12, own_r b16, own_r t34, own_r b38, own_r t64, own_r b68, .unset, .unset, .unset, .unset, .unset] [(.ref t64), (.ref b68)])) rfl (by rw [hml]; rfl) (Steps.refl _) (argsL := [(.ref t64)]) (rest := []) (lenOf pd__Ljava_lang_Object__Z rfl) rfl (by show 2 * 0 + _ ≤ _; exact Nat.le_of_eq rfl) (hb hby at_234) (fun _ _ => ⟨rfl, e112, (by decide : 53 + 1 ≤ _), (by decide : 232 + 10 ≤ _)⟩)
        dsimp only [Pt.U, Pt.locs, Pt.cells, Pt.slots] at X132 l132 y132 z132 st132 hQ132
        subst l132 y132 z132
        obtain ⟨ws132, rfl, N132q, Kc132, side132, AX132⟩ := hQ132
        have N132 := Fr.app N112 N132q
        have K134 := K114.trans Kc132 (fun x hx => Or.inr (Nat.le_trans sz_b68 (side132 x hx)))
        have K135 := K115.trans Kc132 (fun x hx => Or.inr (Nat.le_trans szb_b68 (side132 x hx)))
        have Z132 : n0 ≤ T132.heap.size := Nat.le_trans Z112 Kc132.1
        have kp132 : T64.heap.size ≤ T132.heap.size := Nat.le_trans kp112 Kc132.1
        have e132 : T132.heap = T132.heap := rfl
        have pre136 : own_G p e below T132 s₁ _ _ := fun t k => pre130 t (by
          refine st132.trans ?_
          refine XT.pop X132.here hx rfl (hb hby at_237) rfl rfl ?_
          exact k)
        exact rs_0_3 l Z a0 hw ws p1 p2 p3 p4 em el mr de kd h0 n0 cz vf SEM EM SEL KE M1 SC hcz SF hvf SDE DA wT Bd hml pb pc xi yi bk ak ([t12, t64]) b4 t12 b16 t34 b38 t64 b68 _ hZ hown T132 _ T132.heap (X132.more (cells' := 55) (slots' := 252) (by decide) (by decide)) e132 N132 Z132 _ S64 kp132 pre136 g_b4 sz_b4 g_t12 sz_t12 g_b16 sz_b16 g_t34 sz_t34 g_b38 sz_b38 g_t64 sz_t64 g_b68 sz_b68 K134 hpb hpc hxi hyi hbk hbc nq_t64_t12 nq_t64_t34 hak ((by simp [own_rk, w1, k1, k2])) AX132 ((CHv.keep K135 (fun x hx => by cases hx) CH64.1)) ((own_Node_re wT N64_t12 K135)) ((own_Node_re wT N64_t34 K135)) ((own_Node_re wT N64_t64 K135))
    · skip
      have pre137 : own_G p e below T73 s₁ _ _ := fun t k => pre109 t (by
        refine XS.ifYes X73.here hx rfl (pc0 := 206) (pc' := 217) rfl (hb hby at_206) rfl (XT.i0_ne_t k2) (by decide) (by decide) ?_
        refine XS.iload X73.here hx rfl (hb hby at_217) rfl ?_
        exact k)
      by_cases k1 : pb = (0 : Int32)
      · skip
        have pre138 : own_G p e below T73 s₁ _ _ := fun t k => pre137 t (by
          refine XS.ifNo X73.here hx rfl (hb hby at_219) rfl (XT.i0_ne_f k1) ?_
          refine XS.aload X73.here hx rfl (hb hby at_222) rfl rfl ?_
          refine XS.aload X73.here hx rfl (hb hby at_224) rfl rfl ?_
          exact k)
        have Ee139 := AQ73.1
        obtain ⟨cq140, kq140, q140a, q140b, q140c⟩ := isOf hZ e73 Ee139
        obtain ⟨_, _, ⟨T140, L140, kk140, nn140⟩, -, X140, ⟨Lc140, hQ140, l140, y140, z140⟩, st140⟩ := X73.virtualBack hx (y := own_y1) (z := own_y1) hown (mvT hZ (own_h hw 188 rfl)) (mvT hZ (own_h hw 189 rfl)) (notFace_of_selects (args := #[]) (mvT hZ (own_h hw 191 rfl))) (mvT hZ (own_h hw 191 rfl)) (mvT hZ (own_h hw 190 rfl)) (by decide) (backOf (W := 0) (rm_ad l Z a0 hw [] b68 t34 de kd [] T73.heap n0 Z73 (own_sta_keep SDE K75 (by intro x hx; cases hx)) (DA.keep K75 (by simp)) AQ73 (N64_t34.1.keep K76) (by simp) g_b68) hZ (own_h hw 192 rfl) (own_h hw 3 rfl) (by decide) (by decide)) q140a q140c (g := (mkF m 226 #[own_i p1, own_i p2, own_i p3, own_i p4, own_i pb, own_i pc, own_i xi, own_i yi, own_r b4, own_r t12, own_r b16, own_r t34, own_r b38, own_r t64, own_r b68, .unset, .unset, .unset, .unset, .unset] [(.ref t34), (.ref b68)])) rfl (by rw [hml]; rfl) (Steps.refl _) (argsL := [(.ref t34)]) (rest := []) (lenOf pd__Ljava_lang_Object__Z rfl) rfl (by show 2 * 0 + _ ≤ _; exact Nat.le_of_eq rfl) (hb hby at_226) (fun _ _ => ⟨rfl, e73, (by decide : 52 + 1 ≤ _), (by decide : 222 + 10 ≤ _)⟩)
        dsimp only [Pt.U, Pt.locs, Pt.cells, Pt.slots] at X140 l140 y140 z140 st140 hQ140
        subst l140 y140 z140
        obtain ⟨ws140, rfl, N140q, Kc140, side140, AX140⟩ := hQ140
        have N140 := Fr.app N73 N140q
        have K142 := K75.trans Kc140 (fun x hx => Or.inr (Nat.le_trans sz_b68 (side140 x hx)))
        have K143 := K76.trans Kc140 (fun x hx => Or.inr (Nat.le_trans szb_b68 (side140 x hx)))
        have Z140 : n0 ≤ T140.heap.size := Nat.le_trans Z73 Kc140.1
        have kp140 : T64.heap.size ≤ T140.heap.size := Nat.le_trans kp73 Kc140.1
        have e140 : T140.heap = T140.heap := rfl
        have pre144 : own_G p e below T140 s₁ _ _ := fun t k => pre138 t (by
          refine st140.trans ?_
          refine XT.pop X140.here hx rfl (hb hby at_229) rfl rfl ?_
          refine XS.aload X140.here hx rfl (hb hby at_230) rfl rfl ?_
          refine XS.aload X140.here hx rfl (hb hby at_232) rfl rfl ?_
          exact k)
        have Ee145 := AX140.1
        obtain ⟨cq146, kq146, q146a, q146b, q146c⟩ := isOf hZ e140 Ee145
        obtain ⟨_, _, ⟨T146, L146, kk146, nn146⟩, -, X146, ⟨Lc146, hQ146, l146, y146, z146⟩, st146⟩ := X140.virtualBack hx (y := own_y1) (z := own_y1) hown (mvT hZ (own_h hw 188 rfl)) (mvT hZ (own_h hw 189 rfl)) (notFace_of_selects (args := #[]) (mvT hZ (own_h hw 191 rfl))) (mvT hZ (own_h hw 191 rfl)) (mvT hZ (own_h hw 190 rfl)) (by decide) (backOf (W := 0) (rm_ad l Z a0 hw [] b68 t64 de kd [t34] T140.heap n0 Z140 (own_sta_keep SDE K142 (by intro x hx; cases hx)) (DA.keep K142 (by simp)) AX140 (N64_t64.1.keep K143) (by simp) g_b68) hZ (own_h hw 192 rfl) (own_h hw 3 rfl) (by decide) (by decide)) q146a q146c (g := (mkF m 234 #[own_i p1, own_i p2, own_i p3, own_i p4, own_i pb, own_i pc, own_i xi, own_i yi, own_r b4, own_r t12, own_r b16, own_r t34, own_r b38, own_r t64, own_r b68, .unset, .unset, .unset, .unset, .unset] [(.ref t64), (.ref b68)])) rfl (by rw [hml]; rfl) (Steps.refl _) (argsL := [(.ref t64)]) (rest := []) (lenOf pd__Ljava_lang_Object__Z rfl) rfl (by show 2 * 0 + _ ≤ _; exact Nat.le_of_eq rfl) (hb hby at_234) (fun _ _ => ⟨rfl, e140, (by decide : 53 + 1 ≤ _), (by decide : 232 + 10 ≤ _)⟩)
        dsimp only [Pt.U, Pt.locs, Pt.cells, Pt.slots] at X146 l146 y146 z146 st146 hQ146
        subst l146 y146 z146
        obtain ⟨ws146, rfl, N146q, Kc146, side146, AX146⟩ := hQ146
        have N146 := Fr.app N140 N146q
        have K148 := K142.trans Kc146 (fun x hx => Or.inr (Nat.le_trans sz_b68 (side146 x hx)))
        have K149 := K143.trans Kc146 (fun x hx => Or.inr (Nat.le_trans szb_b68 (side146 x hx)))
        have Z146 : n0 ≤ T146.heap.size := Nat.le_trans Z140 Kc146.1
        have kp146 : T64.heap.size ≤ T146.heap.size := Nat.le_trans kp140 Kc146.1
        have e146 : T146.heap = T146.heap := rfl
        have pre150 : own_G p e below T146 s₁ _ _ := fun t k => pre144 t (by
          refine st146.trans ?_
          refine XT.pop X146.here hx rfl (hb hby at_237) rfl rfl ?_
          exact k)
        exact rs_0_3 l Z a0 hw ws p1 p2 p3 p4 em el mr de kd h0 n0 cz vf SEM EM SEL KE M1 SC hcz SF hvf SDE DA wT Bd hml pb pc xi yi bk ak ([t34, t64]) b4 t12 b16 t34 b38 t64 b68 _ hZ hown T146 _ T146.heap (X146.more (cells' := 55) (slots' := 252) (by decide) (by decide)) e146 N146 Z146 _ S64 kp146 pre150 g_b4 sz_b4 g_t12 sz_t12 g_b16 sz_b16 g_t34 sz_t34 g_b38 sz_b38 g_t64 sz_t64 g_b68 sz_b68 K148 hpb hpc hxi hyi hbk hbc nq_t64_t12 nq_t64_t34 hak ((by simp [own_rk, w1, k1, k2])) AX146 ((CHv.keep K149 (fun x hx => by cases hx) CH64.1)) ((own_Node_re wT N64_t12 K149)) ((own_Node_re wT N64_t34 K149)) ((own_Node_re wT N64_t64 K149))
      · skip
        have pre151 : own_G p e below T73 s₁ _ _ := fun t k => pre137 t (by
          refine XS.ifYes X73.here hx rfl (pc0 := 219) (pc' := 230) rfl (hb hby at_219) rfl (XT.i0_ne_t k1) (by decide) (by decide) ?_
          refine XS.aload X73.here hx rfl (hb hby at_230) rfl rfl ?_
          refine XS.aload X73.here hx rfl (hb hby at_232) rfl rfl ?_
          exact k)
        have Ee152 := AQ73.1
        obtain ⟨cq153, kq153, q153a, q153b, q153c⟩ := isOf hZ e73 Ee152
        obtain ⟨_, _, ⟨T153, L153, kk153, nn153⟩, -, X153, ⟨Lc153, hQ153, l153, y153, z153⟩, st153⟩ := X73.virtualBack hx (y := own_y1) (z := own_y1) hown (mvT hZ (own_h hw 188 rfl)) (mvT hZ (own_h hw 189 rfl)) (notFace_of_selects (args := #[]) (mvT hZ (own_h hw 191 rfl))) (mvT hZ (own_h hw 191 rfl)) (mvT hZ (own_h hw 190 rfl)) (by decide) (backOf (W := 0) (rm_ad l Z a0 hw [] b68 t64 de kd [] T73.heap n0 Z73 (own_sta_keep SDE K75 (by intro x hx; cases hx)) (DA.keep K75 (by simp)) AQ73 (N64_t64.1.keep K76) (by simp) g_b68) hZ (own_h hw 192 rfl) (own_h hw 3 rfl) (by decide) (by decide)) q153a q153c (g := (mkF m 234 #[own_i p1, own_i p2, own_i p3, own_i p4, own_i pb, own_i pc, own_i xi, own_i yi, own_r b4, own_r t12, own_r b16, own_r t34, own_r b38, own_r t64, own_r b68, .unset, .unset, .unset, .unset, .unset] [(.ref t64), (.ref b68)])) rfl (by rw [hml]; rfl) (Steps.refl _) (argsL := [(.ref t64)]) (rest := []) (lenOf pd__Ljava_lang_Object__Z rfl) rfl (by show 2 * 0 + _ ≤ _; exact Nat.le_of_eq rfl) (hb hby at_234) (fun _ _ => ⟨rfl, e73, (by decide : 52 + 1 ≤ _), (by decide : 222 + 10 ≤ _)⟩)
        dsimp only [Pt.U, Pt.locs, Pt.cells, Pt.slots] at X153 l153 y153 z153 st153 hQ153
        subst l153 y153 z153
        obtain ⟨ws153, rfl, N153q, Kc153, side153, AX153⟩ := hQ153
        have N153 := Fr.app N73 N153q
        have K155 := K75.trans Kc153 (fun x hx => Or.inr (Nat.le_trans sz_b68 (side153 x hx)))
        have K156 := K76.trans Kc153 (fun x hx => Or.inr (Nat.le_trans szb_b68 (side153 x hx)))
        have Z153 : n0 ≤ T153.heap.size := Nat.le_trans Z73 Kc153.1
        have kp153 : T64.heap.size ≤ T153.heap.size := Nat.le_trans kp73 Kc153.1
        have e153 : T153.heap = T153.heap := rfl
        have pre157 : own_G p e below T153 s₁ _ _ := fun t k => pre151 t (by
          refine st153.trans ?_
          refine XT.pop X153.here hx rfl (hb hby at_237) rfl rfl ?_
          exact k)
        exact rs_0_3 l Z a0 hw ws p1 p2 p3 p4 em el mr de kd h0 n0 cz vf SEM EM SEL KE M1 SC hcz SF hvf SDE DA wT Bd hml pb pc xi yi bk ak ([t64]) b4 t12 b16 t34 b38 t64 b68 _ hZ hown T153 _ T153.heap (X153.more (cells' := 55) (slots' := 252) (by decide) (by decide)) e153 N153 Z153 _ S64 kp153 pre157 g_b4 sz_b4 g_t12 sz_t12 g_b16 sz_b16 g_t34 sz_t34 g_b38 sz_b38 g_t64 sz_t64 g_b68 sz_b68 K155 hpb hpc hxi hyi hbk hbc nq_t64_t12 nq_t64_t34 hak ((by simp [own_rk, w1, k1, k2])) AX153 ((CHv.keep K156 (fun x hx => by cases hx) CH64.1)) ((own_Node_re wT N64_t12 K156)) ((own_Node_re wT N64_t34 K156)) ((own_Node_re wT N64_t64 K156))
theorem rs_0_1 (l : Launch) (Z : State) (a0 : Array Value) (hw : own_W a0 Z) (ws : List Jvm.Cond) (p1 p2 p3 p4 : Int32) (em el mr de : Addr) (kd : ClassId) (h0 : Heap) (n0 : Nat) (cz : Int32) (vf : Value) (SEM : Sta Z h0 "java/util/ImmutableCollections" "EMPTY" "Ljava/lang/Object;" (.ref em)) (EM : Exa Z h0 em "java/lang/Object") (SEL : Sta Z h0 "java/util/ImmutableCollections" "EMPTY_LIST" "Ljava/util/ImmutableCollections$ListN;" (.ref el)) (KE : own_Kids Z h0 em h0.size el []) (M1 : Mir Z "[Ljava/lang/Object;" mr) (SC : Sta Z h0 "java/lang/String" "COMPACT_STRINGS" "Z" (.int cz)) (hcz : ¬ cz = 0) (SF : Sta Z h0 "jdk/internal/util/Preconditions" "SIOOBE_FORMATTER" "Ljava/util/function/BiFunction;" vf) (hvf : vf.isRef = true) (SDE : Sta Z h0 "java/util/ArrayList" "DEFAULTCAPACITY_EMPTY_ELEMENTDATA" "[Ljava/lang/Object;" (.ref de)) (DA : Arv Z h0 de kd (.object "java/lang/Object") (0 : Int32) [] .null) (wT : (Jvm.Cond.instantiable "com/example/tributary/tributary/merge/Tree" 18).before a0 Z = true) {p e s m below meth c s₁} (Bd : BodyLoose p l x (head1 (Jvm.Cond.code x code maxLocals ret :: ws) room_1) code maxLocals ret e s m #[(.int p1), (.int p2), (.int p3), (.int p4)] below meth c s₁) (hml : c.maxLocals = 20) (pb : Int32) (pc : Int32) (xi : Int32) (yi : Int32) (bk : List Addr) (b4 : Addr) (t12 : Addr) (b16 : Addr) (vmc : Vm) (hZ : Z.Warmed39 (s.setVm vmc).vm) (hown : (s.setVm vmc).vm.findClass "com/example/tributary/tributary/merge/TreeContainsPinLaw" = some m.cls) (Tc : State) (Lc0 : List Loc) (hhc : Heap) (Xc : Stand p l e room_1 (s.setVm vmc) m #[(.int p1), (.int p2), (.int p3), (.int p4)] below meth c Tc Lc0 18 76) (ec : Tc.heap = hhc) (Nc : Fr n0 Lc0) (Zc : n0 ≤ hhc.size) (kwc : Nat) (Sc : s.Since vmc kwc) (kpc : kwc ≤ hhc.size) (prec : ∀ t, Steps p.tables e below (Tc.setTop (mkF m 64 #[own_i p1, own_i p2, own_i p3, own_i p4, own_i pb, own_i pc, own_i xi, own_i yi, own_r b4, own_r t12, own_r b16, .unset, .unset, .unset, .unset, .unset, .unset, .unset, .unset, .unset] [])) t → Steps p.tables e below (s₁.setTop (entryFrame m #[(.int p1), (.int p2), (.int p3), (.int p4)] maxLocals)) t) (g_b4 : n0 ≤ b4) (sz_b4 : h0.size ≤ b4) (g_t12 : n0 ≤ t12) (sz_t12 : h0.size ≤ t12) (g_b16 : n0 ≤ b16) (sz_b16 : h0.size ≤ b16) (Kk : Keep h0 hhc []) (hpb : pb = 0 ∨ pb = 1) (hpc : pc = 0 ∨ pc = 1 ∨ pc = 2) (hxi : own_q4 xi) (hyi : own_q4 yi) (hbk : bk = own_bk pc t12) (ALb : own_AL Z hhc de b16 bk) (CHc : CHv Z own_EL vmc hhc) (M_t12 : own_Node Z hhc em t12 [] 1) :
    ∃ s₂ o, Steps p.tables e below (s₁.setTop (entryFrame m #[(.int p1), (.int p2), (.int p3), (.int p4)] maxLocals)) s₂ ∧ s₂.status = .running ∧ Ended s₂ below o ∧ ∃ v L, o = .returned v ∧ Q_0 Z p1 p2 p3 p4 em el mr de kd h0 n0 v s₂.heap L ∧ ReturnedEndW s o s₂ L room_1.cells room_1.slots := by
  have hx := Bd.exec
  have hby := Bd.bytes
  have hnm := (name_of_methodNamed Bd.named Bd.method).1
  have pre33 : own_G p e below Tc s₁ _ _ := fun t k => prec t (by
    refine XS.aload Xc.here hx rfl (hb hby at_64) rfl rfl ?_
    exact k)
  obtain ⟨_, _, ⟨T34, L34, kk34, nn34⟩, -, Y34, Sx34, gr34, ⟨Lc34, hQ34, l34, y34, z34, CH34⟩, st34⟩ := Jvm.RoadKit.callSS Xc hx (y := own_y10) hown (mvT hZ (own_h hw 27 rfl)) (mvT hZ (own_h hw 28 rfl)) (mvT hZ (own_h hw 29 rfl)) (mvT hZ (own_h hw 30 rfl)) (by decide) (backOfSH (W := 0) (rm_nd l Z a0 hw [] b16 em el mr de bk (fun _ => 1) hhc n0 Zc (own_sta_keep SEM Kk (by intro x hx; cases hx)) (EM.keep Kk) (own_sta_keep SEL Kk (by intro x hx; cases hx)) (own_Kids_re wT KE Kk) M1 (own_sta_keep SC Kk (by intro x hx; cases hx)) hcz (own_sta_keep SF Kk (by intro x hx; cases hx)) hvf (own_sta_keep SDE Kk (by intro x hx; cases hx)) ALb (own_HC (P := fun x => x = t12) (fun x hx => own_bk_mem hbk hx) (fun x q => by rw [q]; exact own_Node_ch M_t12 (Keep.refl _ _) rfl)) (own_bk_len hbk)) hZ (own_h hw 30 rfl) (own_h hw 29 rfl) (by decide) (by decide) (own_EW hw) CHc) (g := (mkF m 66 #[own_i p1, own_i p2, own_i p3, own_i p4, own_i pb, own_i pc, own_i xi, own_i yi, own_r b4, own_r t12, own_r b16, .unset, .unset, .unset, .unset, .unset, .unset, .unset, .unset, .unset] [(.ref b16)])) rfl (by rw [hml]; rfl) (argsL := [(.ref b16)]) (rest := []) (lenOf pd__Ljava_util_ArrayList__Lcom_example_tributary_tributary_merge_Tree_ rfl) rfl (by show 2 * 0 + _ ≤ _; exact Nat.le_of_eq rfl) (hb hby at_66) (fun _ _ => ⟨rfl, ec, (by decide : 18 + 15 ≤ _), (by decide : 76 + 60 ≤ _)⟩)
  dsimp only [Pt.U, Pt.locs, Pt.cells, Pt.slots] at Y34 Sx34 gr34 l34 y34 z34 st34 hQ34 CH34
  subst l34 y34 z34
  obtain ⟨X34, S34, hZ, hown⟩ := rebS Sc (Nat.le_trans kpc (Nat.le_of_eq (congrArg Array.size ec.symm))) Y34 Sx34 gr34 hZ hown
  obtain ⟨t34, rfl, N34q, Kc34, g_t34, sx34, Nd34⟩ := hQ34
  have N34 := Fr.app Nc N34q
  have K36 := Kk.trans Kc34 (fun x hx => by cases hx)
  have Z34 : n0 ≤ T34.heap.size := Nat.le_trans Zc Kc34.1
  have kp34 : T34.heap.size ≤ T34.heap.size := Nat.le_refl _
  have e34 : T34.heap = T34.heap := rfl
  have sz_t34 : h0.size ≤ t34 := Nat.le_trans Kk.1 sx34
  have N34_t12 := own_Node_re wT M_t12 Kc34
  have nq_t34_t12 : ¬ t34 = t12 := fun q => Nat.ne_of_lt (Nat.lt_of_lt_of_le M_t12.1.lt sx34) q.symm
  have N34_t34 := Nd34
  have Kb34 : Keep T34.heap T34.heap [] := Keep.refl _ _
  have pre37 : own_G p e below T34 s₁ _ _ := fun t k => pre33 t (by
    refine st34.trans ?_
    refine XS.astore X34.here hx rfl (hb hby at_69) rfl rfl (l' := #[own_i p1, own_i p2, own_i p3, own_i p4, own_i pb, own_i pc, own_i xi, own_i yi, own_r b4, own_r t12, own_r b16, own_r t34, .unset, .unset, .unset, .unset, .unset, .unset, .unset, .unset]) rfl ?_
    exact k)
  obtain ⟨T38, h38, X38, e38, E38, A38, D38, -, st38⟩ := newO X34 hx hZ hown (own_h hw 1 rfl) (own_h hw 2 rfl) (own_h hw 3 rfl) e34 (g := (mkF m 71 #[own_i p1, own_i p2, own_i p3, own_i p4, own_i pb, own_i pc, own_i xi, own_i yi, own_r b4, own_r t12, own_r b16, own_r t34, .unset, .unset, .unset, .unset, .unset, .unset, .unset, .unset] [])) rfl (hb hby at_71) (by decide) (by decide)
  obtain ⟨b38, g38⟩ : ∃ z, z = T34.heap.size := ⟨_, rfl⟩
  rw [← g38] at A38 D38 st38
  have g_b38 : n0 ≤ b38 := Nat.le_trans Z34 (Nat.le_of_eq g38.symm)
  have sz_b38 : h0.size ≤ b38 := Nat.le_trans K36.1 (Nat.le_of_eq g38.symm)
  have szb_b38 : T34.heap.size ≤ b38 := Nat.le_trans Kb34.1 (Nat.le_of_eq g38.symm)
  have Z38 : n0 ≤ h38.size := Nat.le_trans Z34 E38.1
  have kp38 : T34.heap.size ≤ h38.size := Nat.le_trans kp34 E38.1
  have K40 := K36.ext E38
  have K41 := Kb34.ext E38
  have F38_modCount : Fld Z h38 b38 "java/util/AbstractList" "modCount" "I" (.int (0 : Int32)) := D38 (Or.inl (own_h hw 23 rfl)) (ty := .int) (by decide)
  have F38_elementData : Fld Z h38 b38 "java/util/ArrayList" "elementData" "[Ljava/lang/Object;" .null := D38 (Or.inl (own_h hw 26 rfl)) (ty := (.array (.object "java/lang/Object"))) (by decide)
  have F38_size : Fld Z h38 b38 "java/util/ArrayList" "size" "I" (.int (0 : Int32)) := D38 (Or.inl (own_h hw 80 rfl)) (ty := .int) (by decide)
  have pre42 : own_G p e below T38 s₁ _ _ := fun t k => pre37 t (by
    refine st38 _ ?_
    refine XS.dup X38.here hx rfl (hb hby at_74) rfl rfl ?_
    exact k)
  obtain ⟨_, _, ⟨T43, L43, kk43, nn43⟩, -, X43, ⟨Lc43, hQ43, l43, y43, z43⟩, st43⟩ := X38.specialBack hx (y := own_y3) rfl hown (mvT hZ (own_h hw 4 rfl)) (mvT hZ (own_h hw 5 rfl)) (mvT hZ (own_h hw 6 rfl)) (by decide) (backOf (W := 1) (rm_ali l Z a0 hw [] b38 de h38 n0 Z38 (own_sta_keep SDE K40 (by intro x hx; cases hx)) A38 F38_modCount F38_elementData F38_size g_b38) hZ (own_h hw 6 rfl) (own_h hw 3 rfl) (by decide) (by decide)) (g := (mkF m 75 #[own_i p1, own_i p2, own_i p3, own_i p4, own_i pb, own_i pc, own_i xi, own_i yi, own_r b4, own_r t12, own_r b16, own_r t34, .unset, .unset, .unset, .unset, .unset, .unset, .unset, .unset] [(.ref b38), (.ref b38)])) rfl (by rw [hml]; rfl) (Steps.refl _) (a := b38) (argsL := []) (rest := [(.ref b38)]) (lenOf pd___V rfl) rfl (by show 2 * 0 + _ ≤ _; exact Nat.le_of_eq rfl) (hb hby at_75) (fun _ _ => ⟨rfl, e38, (by decide : 34 + 0 ≤ _), (by decide : 139 + 0 ≤ _)⟩)
  dsimp only [Pt.U, Pt.locs, Pt.cells, Pt.slots] at X43 l43 y43 z43 st43 hQ43
  subst l43 y43 z43
  obtain ⟨rfl, N43q, Kc43, Fm43, Fe43, Fz43⟩ := hQ43
  have N43 := Fr.app N34 N43q
  have f44_0 := A38.keep Kc43
  have K45 := K40.trans Kc43 (fun x hx => by cases List.mem_singleton.mp hx; exact (Or.inr sz_b38))
  have K46 := K41.trans Kc43 (fun x hx => by cases List.mem_singleton.mp hx; exact (Or.inr szb_b38))
  have Z43 : n0 ≤ T43.heap.size := Nat.le_trans Z38 Kc43.1
  have kp43 : T34.heap.size ≤ T43.heap.size := Nat.le_trans kp38 Kc43.1
  have e43 : T43.heap = T43.heap := rfl
  have AQ43 : own_AL Z T43.heap de b38 [] := ⟨f44_0, ⟨_, Fm43⟩, Fz43, Or.inl ⟨rfl, Fe43⟩⟩
  have pre47 : own_G p e below T43 s₁ _ _ := fun t k => pre42 t (by
    refine st43.trans ?_
    refine XS.astore X43.here hx rfl (hb hby at_78) rfl rfl (l' := #[own_i p1, own_i p2, own_i p3, own_i p4, own_i pb, own_i pc, own_i xi, own_i yi, own_r b4, own_r t12, own_r b16, own_r t34, own_r b38, .unset, .unset, .unset, .unset, .unset, .unset, .unset]) rfl ?_
    refine XS.iloadN X43.here hx rfl (hb hby at_80) rfl ?_
    refine XS.iconst X43.here hx rfl (hb hby at_81) ?_
    refine XS.iand X43.here hx rfl (hb hby at_82) rfl ?_
    exact k)
  by_cases w2 : (p2 &&& (2 : Int32)) = 0
  · skip
    have pre48 : own_G p e below T43 s₁ _ _ := fun t k => pre47 t (by
      refine XS.ifNo X43.here hx rfl (hb hby at_83) rfl (XT.i0_ne_f w2) ?_
      refine XS.iload X43.here hx rfl (hb hby at_86) rfl ?_
      refine XS.iconst X43.here hx rfl (hb hby at_88) ?_
      exact k)
    by_cases k1 : pb = (1 : Int32)
    · skip
      have pre49 : own_G p e below T43 s₁ _ _ := fun t k => pre48 t (by
        refine XS.icmpNo X43.here hx rfl (hb hby at_89) rfl (XT.ii_ne_f k1) ?_
        refine XS.aload X43.here hx rfl (hb hby at_92) rfl rfl ?_
        refine XS.aload X43.here hx rfl (hb hby at_94) rfl rfl ?_
        exact k)
      have Ee50 := AQ43.1
      obtain ⟨cq51, kq51, q51a, q51b, q51c⟩ := isOf hZ e43 Ee50
      obtain ⟨_, _, ⟨T51, L51, kk51, nn51⟩, -, X51, ⟨Lc51, hQ51, l51, y51, z51⟩, st51⟩ := X43.virtualBack hx (y := own_y1) (z := own_y1) hown (mvT hZ (own_h hw 188 rfl)) (mvT hZ (own_h hw 189 rfl)) (notFace_of_selects (args := #[]) (mvT hZ (own_h hw 191 rfl))) (mvT hZ (own_h hw 191 rfl)) (mvT hZ (own_h hw 190 rfl)) (by decide) (backOf (W := 0) (rm_ad l Z a0 hw [] b38 t34 de kd [] T43.heap n0 Z43 (own_sta_keep SDE K45 (by intro x hx; cases hx)) (DA.keep K45 (by simp)) AQ43 (N34_t34.1.keep K46) (by simp) g_b38) hZ (own_h hw 192 rfl) (own_h hw 3 rfl) (by decide) (by decide)) q51a q51c (g := (mkF m 96 #[own_i p1, own_i p2, own_i p3, own_i p4, own_i pb, own_i pc, own_i xi, own_i yi, own_r b4, own_r t12, own_r b16, own_r t34, own_r b38, .unset, .unset, .unset, .unset, .unset, .unset, .unset] [(.ref t34), (.ref b38)])) rfl (by rw [hml]; rfl) (Steps.refl _) (argsL := [(.ref t34)]) (rest := []) (lenOf pd__Ljava_lang_Object__Z rfl) rfl (by show 2 * 0 + _ ≤ _; exact Nat.le_of_eq rfl) (hb hby at_96) (fun _ _ => ⟨rfl, e43, (by decide : 34 + 1 ≤ _), (by decide : 139 + 10 ≤ _)⟩)
      dsimp only [Pt.U, Pt.locs, Pt.cells, Pt.slots] at X51 l51 y51 z51 st51 hQ51
      subst l51 y51 z51
      obtain ⟨ws51, rfl, N51q, Kc51, side51, AX51⟩ := hQ51
      have N51 := Fr.app N43 N51q
      have K53 := K45.trans Kc51 (fun x hx => Or.inr (Nat.le_trans sz_b38 (side51 x hx)))
      have K54 := K46.trans Kc51 (fun x hx => Or.inr (Nat.le_trans szb_b38 (side51 x hx)))
      have Z51 : n0 ≤ T51.heap.size := Nat.le_trans Z43 Kc51.1
      have kp51 : T34.heap.size ≤ T51.heap.size := Nat.le_trans kp43 Kc51.1
      have e51 : T51.heap = T51.heap := rfl
      have pre55 : own_G p e below T51 s₁ _ _ := fun t k => pre49 t (by
        refine st51.trans ?_
        refine XT.pop X51.here hx rfl (hb hby at_99) rfl rfl ?_
        refine XS.iload X51.here hx rfl (hb hby at_100) rfl ?_
        refine XS.iconst X51.here hx rfl (hb hby at_102) ?_
        exact k)
      by_cases k2 : pc = (1 : Int32)
      · skip
        have pre56 : own_G p e below T51 s₁ _ _ := fun t k => pre55 t (by
          refine XS.icmpNo X51.here hx rfl (hb hby at_103) rfl (XT.ii_ne_f k2) ?_
          refine XS.aload X51.here hx rfl (hb hby at_106) rfl rfl ?_
          refine XS.aload X51.here hx rfl (hb hby at_108) rfl rfl ?_
          exact k)
        have Ee57 := AX51.1
        obtain ⟨cq58, kq58, q58a, q58b, q58c⟩ := isOf hZ e51 Ee57
        obtain ⟨_, _, ⟨T58, L58, kk58, nn58⟩, -, X58, ⟨Lc58, hQ58, l58, y58, z58⟩, st58⟩ := X51.virtualBack hx (y := own_y1) (z := own_y1) hown (mvT hZ (own_h hw 188 rfl)) (mvT hZ (own_h hw 189 rfl)) (notFace_of_selects (args := #[]) (mvT hZ (own_h hw 191 rfl))) (mvT hZ (own_h hw 191 rfl)) (mvT hZ (own_h hw 190 rfl)) (by decide) (backOf (W := 0) (rm_ad l Z a0 hw [] b38 t12 de kd [t34] T51.heap n0 Z51 (own_sta_keep SDE K53 (by intro x hx; cases hx)) (DA.keep K53 (by simp)) AX51 (N34_t12.1.keep K54) (by simp) g_b38) hZ (own_h hw 192 rfl) (own_h hw 3 rfl) (by decide) (by decide)) q58a q58c (g := (mkF m 110 #[own_i p1, own_i p2, own_i p3, own_i p4, own_i pb, own_i pc, own_i xi, own_i yi, own_r b4, own_r t12, own_r b16, own_r t34, own_r b38, .unset, .unset, .unset, .unset, .unset, .unset, .unset] [(.ref t12), (.ref b38)])) rfl (by rw [hml]; rfl) (Steps.refl _) (argsL := [(.ref t12)]) (rest := []) (lenOf pd__Ljava_lang_Object__Z rfl) rfl (by show 2 * 0 + _ ≤ _; exact Nat.le_of_eq rfl) (hb hby at_110) (fun _ _ => ⟨rfl, e51, (by decide : 35 + 1 ≤ _), (by decide : 149 + 10 ≤ _)⟩)
        dsimp only [Pt.U, Pt.locs, Pt.cells, Pt.slots] at X58 l58 y58 z58 st58 hQ58
        subst l58 y58 z58
        obtain ⟨ws58, rfl, N58q, Kc58, side58, AX58⟩ := hQ58
        have N58 := Fr.app N51 N58q
        have K60 := K53.trans Kc58 (fun x hx => Or.inr (Nat.le_trans sz_b38 (side58 x hx)))
        have K61 := K54.trans Kc58 (fun x hx => Or.inr (Nat.le_trans szb_b38 (side58 x hx)))
        have Z58 : n0 ≤ T58.heap.size := Nat.le_trans Z51 Kc58.1
        have kp58 : T34.heap.size ≤ T58.heap.size := Nat.le_trans kp51 Kc58.1
        have e58 : T58.heap = T58.heap := rfl
        have pre62 : own_G p e below T58 s₁ _ _ := fun t k => pre56 t (by
          refine st58.trans ?_
          refine XT.pop X58.here hx rfl (hb hby at_113) rfl rfl ?_
          refine XS.goto X58.here hx rfl (pc0 := 114) (pc' := 145) rfl (hb hby at_114) (by decide) (by decide) ?_
          exact k)
        exact rs_0_2 l Z a0 hw ws p1 p2 p3 p4 em el mr de kd h0 n0 cz vf SEM EM SEL KE M1 SC hcz SF hvf SDE DA wT Bd hml pb pc xi yi bk ([t34, t12]) b4 t12 b16 t34 b38 _ hZ hown T58 _ T58.heap X58 e58 N58 Z58 _ S34 kp58 pre62 g_b4 sz_b4 g_t12 sz_t12 g_b16 sz_b16 g_t34 sz_t34 g_b38 sz_b38 K60 hpb hpc hxi hyi hbk nq_t34_t12 ((by simp [own_ak, w2, k1, k2])) AX58 ((CHv.keep K61 (fun x hx => by cases hx) CH34.1)) ((own_Node_re wT N34_t12 K61)) ((own_Node_re wT N34_t34 K61))
      · skip
        have pre63 : own_G p e below T51 s₁ _ _ := fun t k => pre55 t (by
          refine XS.icmpYes X51.here hx rfl (pc0 := 103) (pc' := 145) rfl (hb hby at_103) rfl (XT.ii_ne_t k2) (by decide) (by decide) ?_
          exact k)
        exact rs_0_2 l Z a0 hw ws p1 p2 p3 p4 em el mr de kd h0 n0 cz vf SEM EM SEL KE M1 SC hcz SF hvf SDE DA wT Bd hml pb pc xi yi bk ([t34]) b4 t12 b16 t34 b38 _ hZ hown T51 _ T51.heap (X51.more (cells' := 36) (slots' := 159) (by decide) (by decide)) e51 N51 Z51 _ S34 kp51 pre63 g_b4 sz_b4 g_t12 sz_t12 g_b16 sz_b16 g_t34 sz_t34 g_b38 sz_b38 K53 hpb hpc hxi hyi hbk nq_t34_t12 ((by simp [own_ak, w2, k1, k2])) AX51 ((CHv.keep K54 (fun x hx => by cases hx) CH34.1)) ((own_Node_re wT N34_t12 K54)) ((own_Node_re wT N34_t34 K54))
    · skip
      have pre64 : own_G p e below T43 s₁ _ _ := fun t k => pre48 t (by
        refine XS.icmpYes X43.here hx rfl (pc0 := 89) (pc' := 100) rfl (hb hby at_89) rfl (XT.ii_ne_t k1) (by decide) (by decide) ?_
        refine XS.iload X43.here hx rfl (hb hby at_100) rfl ?_
        refine XS.iconst X43.here hx rfl (hb hby at_102) ?_
        exact k)
      by_cases k2 : pc = (1 : Int32)
      · skip
        have pre65 : own_G p e below T43 s₁ _ _ := fun t k => pre64 t (by
          refine XS.icmpNo X43.here hx rfl (hb hby at_103) rfl (XT.ii_ne_f k2) ?_
          refine XS.aload X43.here hx rfl (hb hby at_106) rfl rfl ?_
          refine XS.aload X43.here hx rfl (hb hby at_108) rfl rfl ?_
          exact k)
        have Ee66 := AQ43.1
        obtain ⟨cq67, kq67, q67a, q67b, q67c⟩ := isOf hZ e43 Ee66
        obtain ⟨_, _, ⟨T67, L67, kk67, nn67⟩, -, X67, ⟨Lc67, hQ67, l67, y67, z67⟩, st67⟩ := X43.virtualBack hx (y := own_y1) (z := own_y1) hown (mvT hZ (own_h hw 188 rfl)) (mvT hZ (own_h hw 189 rfl)) (notFace_of_selects (args := #[]) (mvT hZ (own_h hw 191 rfl))) (mvT hZ (own_h hw 191 rfl)) (mvT hZ (own_h hw 190 rfl)) (by decide) (backOf (W := 0) (rm_ad l Z a0 hw [] b38 t12 de kd [] T43.heap n0 Z43 (own_sta_keep SDE K45 (by intro x hx; cases hx)) (DA.keep K45 (by simp)) AQ43 (N34_t12.1.keep K46) (by simp) g_b38) hZ (own_h hw 192 rfl) (own_h hw 3 rfl) (by decide) (by decide)) q67a q67c (g := (mkF m 110 #[own_i p1, own_i p2, own_i p3, own_i p4, own_i pb, own_i pc, own_i xi, own_i yi, own_r b4, own_r t12, own_r b16, own_r t34, own_r b38, .unset, .unset, .unset, .unset, .unset, .unset, .unset] [(.ref t12), (.ref b38)])) rfl (by rw [hml]; rfl) (Steps.refl _) (argsL := [(.ref t12)]) (rest := []) (lenOf pd__Ljava_lang_Object__Z rfl) rfl (by show 2 * 0 + _ ≤ _; exact Nat.le_of_eq rfl) (hb hby at_110) (fun _ _ => ⟨rfl, e43, (by decide : 34 + 1 ≤ _), (by decide : 139 + 10 ≤ _)⟩)
        dsimp only [Pt.U, Pt.locs, Pt.cells, Pt.slots] at X67 l67 y67 z67 st67 hQ67
        subst l67 y67 z67
        obtain ⟨ws67, rfl, N67q, Kc67, side67, AX67⟩ := hQ67
        have N67 := Fr.app N43 N67q
        have K69 := K45.trans Kc67 (fun x hx => Or.inr (Nat.le_trans sz_b38 (side67 x hx)))
        have K70 := K46.trans Kc67 (fun x hx => Or.inr (Nat.le_trans szb_b38 (side67 x hx)))
        have Z67 : n0 ≤ T67.heap.size := Nat.le_trans Z43 Kc67.1
        have kp67 : T34.heap.size ≤ T67.heap.size := Nat.le_trans kp43 Kc67.1
        have e67 : T67.heap = T67.heap := rfl
        have pre71 : own_G p e below T67 s₁ _ _ := fun t k => pre65 t (by
          refine st67.trans ?_
          refine XT.pop X67.here hx rfl (hb hby at_113) rfl rfl ?_
          refine XS.goto X67.here hx rfl (pc0 := 114) (pc' := 145) rfl (hb hby at_114) (by decide) (by decide) ?_
          exact k)
        exact rs_0_2 l Z a0 hw ws p1 p2 p3 p4 em el mr de kd h0 n0 cz vf SEM EM SEL KE M1 SC hcz SF hvf SDE DA wT Bd hml pb pc xi yi bk ([t12]) b4 t12 b16 t34 b38 _ hZ hown T67 _ T67.heap (X67.more (cells' := 36) (slots' := 159) (by decide) (by decide)) e67 N67 Z67 _ S34 kp67 pre71 g_b4 sz_b4 g_t12 sz_t12 g_b16 sz_b16 g_t34 sz_t34 g_b38 sz_b38 K69 hpb hpc hxi hyi hbk nq_t34_t12 ((by simp [own_ak, w2, k1, k2])) AX67 ((CHv.keep K70 (fun x hx => by cases hx) CH34.1)) ((own_Node_re wT N34_t12 K70)) ((own_Node_re wT N34_t34 K70))
      · skip
        have pre72 : own_G p e below T43 s₁ _ _ := fun t k => pre64 t (by
          refine XS.icmpYes X43.here hx rfl (pc0 := 103) (pc' := 145) rfl (hb hby at_103) rfl (XT.ii_ne_t k2) (by decide) (by decide) ?_
          exact k)
        exact rs_0_2 l Z a0 hw ws p1 p2 p3 p4 em el mr de kd h0 n0 cz vf SEM EM SEL KE M1 SC hcz SF hvf SDE DA wT Bd hml pb pc xi yi bk ([]) b4 t12 b16 t34 b38 _ hZ hown T43 _ T43.heap (X43.more (cells' := 36) (slots' := 159) (by decide) (by decide)) e43 N43 Z43 _ S34 kp43 pre72 g_b4 sz_b4 g_t12 sz_t12 g_b16 sz_b16 g_t34 sz_t34 g_b38 sz_b38 K45 hpb hpc hxi hyi hbk nq_t34_t12 ((by simp [own_ak, w2, k1, k2])) AQ43 ((CHv.keep K46 (fun x hx => by cases hx) CH34.1)) ((own_Node_re wT N34_t12 K46)) ((own_Node_re wT N34_t34 K46))
  · skip
    have pre73 : own_G p e below T43 s₁ _ _ := fun t k => pre47 t (by
      refine XS.ifYes X43.here hx rfl (pc0 := 83) (pc' := 117) rfl (hb hby at_83) rfl (XT.i0_ne_t w2) (by decide) (by decide) ?_
      refine XS.iload X43.here hx rfl (hb hby at_117) rfl ?_
      refine XS.iconst X43.here hx rfl (hb hby at_119) ?_
      exact k)
    by_cases k2 : pc = (1 : Int32)
    · skip
      have pre74 : own_G p e below T43 s₁ _ _ := fun t k => pre73 t (by
        refine XS.icmpNo X43.here hx rfl (hb hby at_120) rfl (XT.ii_ne_f k2) ?_
        refine XS.aload X43.here hx rfl (hb hby at_123) rfl rfl ?_
        refine XS.aload X43.here hx rfl (hb hby at_125) rfl rfl ?_
        exact k)
      have Ee75 := AQ43.1
      obtain ⟨cq76, kq76, q76a, q76b, q76c⟩ := isOf hZ e43 Ee75
      obtain ⟨_, _, ⟨T76, L76, kk76, nn76⟩, -, X76, ⟨Lc76, hQ76, l76, y76, z76⟩, st76⟩ := X43.virtualBack hx (y := own_y1) (z := own_y1) hown (mvT hZ (own_h hw 188 rfl)) (mvT hZ (own_h hw 189 rfl)) (notFace_of_selects (args := #[]) (mvT hZ (own_h hw 191 rfl))) (mvT hZ (own_h hw 191 rfl)) (mvT hZ (own_h hw 190 rfl)) (by decide) (backOf (W := 0) (rm_ad l Z a0 hw [] b38 t12 de kd [] T43.heap n0 Z43 (own_sta_keep SDE K45 (by intro x hx; cases hx)) (DA.keep K45 (by simp)) AQ43 (N34_t12.1.keep K46) (by simp) g_b38) hZ (own_h hw 192 rfl) (own_h hw 3 rfl) (by decide) (by decide)) q76a q76c (g := (mkF m 127 #[own_i p1, own_i p2, own_i p3, own_i p4, own_i pb, own_i pc, own_i xi, own_i yi, own_r b4, own_r t12, own_r b16, own_r t34, own_r b38, .unset, .unset, .unset, .unset, .unset, .unset, .unset] [(.ref t12), (.ref b38)])) rfl (by rw [hml]; rfl) (Steps.refl _) (argsL := [(.ref t12)]) (rest := []) (lenOf pd__Ljava_lang_Object__Z rfl) rfl (by show 2 * 0 + _ ≤ _; exact Nat.le_of_eq rfl) (hb hby at_127) (fun _ _ => ⟨rfl, e43, (by decide : 34 + 1 ≤ _), (by decide : 139 + 10 ≤ _)⟩)
      dsimp only [Pt.U, Pt.locs, Pt.cells, Pt.slots] at X76 l76 y76 z76 st76 hQ76
      subst l76 y76 z76
      obtain ⟨ws76, rfl, N76q, Kc76, side76, AX76⟩ := hQ76
      have N76 := Fr.app N43 N76q
      have K78 := K45.trans Kc76 (fun x hx => Or.inr (Nat.le_trans sz_b38 (side76 x hx)))
      have K79 := K46.trans Kc76 (fun x hx => Or.inr (Nat.le_trans szb_b38 (side76 x hx)))
      have Z76 : n0 ≤ T76.heap.size := Nat.le_trans Z43 Kc76.1
      have kp76 : T34.heap.size ≤ T76.heap.size := Nat.le_trans kp43 Kc76.1
      have e76 : T76.heap = T76.heap := rfl
      have pre80 : own_G p e below T76 s₁ _ _ := fun t k => pre74 t (by
        refine st76.trans ?_
        refine XT.pop X76.here hx rfl (hb hby at_130) rfl rfl ?_
        refine XS.iload X76.here hx rfl (hb hby at_131) rfl ?_
        refine XS.iconst X76.here hx rfl (hb hby at_133) ?_
        exact k)
      by_cases k1 : pb = (1 : Int32)
      · skip
        have pre81 : own_G p e below T76 s₁ _ _ := fun t k => pre80 t (by
          refine XS.icmpNo X76.here hx rfl (hb hby at_134) rfl (XT.ii_ne_f k1) ?_
          refine XS.aload X76.here hx rfl (hb hby at_137) rfl rfl ?_
          refine XS.aload X76.here hx rfl (hb hby at_139) rfl rfl ?_
          exact k)
        have Ee82 := AX76.1
        obtain ⟨cq83, kq83, q83a, q83b, q83c⟩ := isOf hZ e76 Ee82
        obtain ⟨_, _, ⟨T83, L83, kk83, nn83⟩, -, X83, ⟨Lc83, hQ83, l83, y83, z83⟩, st83⟩ := X76.virtualBack hx (y := own_y1) (z := own_y1) hown (mvT hZ (own_h hw 188 rfl)) (mvT hZ (own_h hw 189 rfl)) (notFace_of_selects (args := #[]) (mvT hZ (own_h hw 191 rfl))) (mvT hZ (own_h hw 191 rfl)) (mvT hZ (own_h hw 190 rfl)) (by decide) (backOf (W := 0) (rm_ad l Z a0 hw [] b38 t34 de kd [t12] T76.heap n0 Z76 (own_sta_keep SDE K78 (by intro x hx; cases hx)) (DA.keep K78 (by simp)) AX76 (N34_t34.1.keep K79) (by simp) g_b38) hZ (own_h hw 192 rfl) (own_h hw 3 rfl) (by decide) (by decide)) q83a q83c (g := (mkF m 141 #[own_i p1, own_i p2, own_i p3, own_i p4, own_i pb, own_i pc, own_i xi, own_i yi, own_r b4, own_r t12, own_r b16, own_r t34, own_r b38, .unset, .unset, .unset, .unset, .unset, .unset, .unset] [(.ref t34), (.ref b38)])) rfl (by rw [hml]; rfl) (Steps.refl _) (argsL := [(.ref t34)]) (rest := []) (lenOf pd__Ljava_lang_Object__Z rfl) rfl (by show 2 * 0 + _ ≤ _; exact Nat.le_of_eq rfl) (hb hby at_141) (fun _ _ => ⟨rfl, e76, (by decide : 35 + 1 ≤ _), (by decide : 149 + 10 ≤ _)⟩)
        dsimp only [Pt.U, Pt.locs, Pt.cells, Pt.slots] at X83 l83 y83 z83 st83 hQ83
        subst l83 y83 z83
        obtain ⟨ws83, rfl, N83q, Kc83, side83, AX83⟩ := hQ83
        have N83 := Fr.app N76 N83q
        have K85 := K78.trans Kc83 (fun x hx => Or.inr (Nat.le_trans sz_b38 (side83 x hx)))
        have K86 := K79.trans Kc83 (fun x hx => Or.inr (Nat.le_trans szb_b38 (side83 x hx)))
        have Z83 : n0 ≤ T83.heap.size := Nat.le_trans Z76 Kc83.1
        have kp83 : T34.heap.size ≤ T83.heap.size := Nat.le_trans kp76 Kc83.1
        have e83 : T83.heap = T83.heap := rfl
        have pre87 : own_G p e below T83 s₁ _ _ := fun t k => pre81 t (by
          refine st83.trans ?_
          refine XT.pop X83.here hx rfl (hb hby at_144) rfl rfl ?_
          exact k)
        exact rs_0_2 l Z a0 hw ws p1 p2 p3 p4 em el mr de kd h0 n0 cz vf SEM EM SEL KE M1 SC hcz SF hvf SDE DA wT Bd hml pb pc xi yi bk ([t12, t34]) b4 t12 b16 t34 b38 _ hZ hown T83 _ T83.heap (X83.more (cells' := 36) (slots' := 159) (by decide) (by decide)) e83 N83 Z83 _ S34 kp83 pre87 g_b4 sz_b4 g_t12 sz_t12 g_b16 sz_b16 g_t34 sz_t34 g_b38 sz_b38 K85 hpb hpc hxi hyi hbk nq_t34_t12 ((by simp [own_ak, w2, k1, k2])) AX83 ((CHv.keep K86 (fun x hx => by cases hx) CH34.1)) ((own_Node_re wT N34_t12 K86)) ((own_Node_re wT N34_t34 K86))
      · skip
        have pre88 : own_G p e below T76 s₁ _ _ := fun t k => pre80 t (by
          refine XS.icmpYes X76.here hx rfl (pc0 := 134) (pc' := 145) rfl (hb hby at_134) rfl (XT.ii_ne_t k1) (by decide) (by decide) ?_
          exact k)
        exact rs_0_2 l Z a0 hw ws p1 p2 p3 p4 em el mr de kd h0 n0 cz vf SEM EM SEL KE M1 SC hcz SF hvf SDE DA wT Bd hml pb pc xi yi bk ([t12]) b4 t12 b16 t34 b38 _ hZ hown T76 _ T76.heap (X76.more (cells' := 36) (slots' := 159) (by decide) (by decide)) e76 N76 Z76 _ S34 kp76 pre88 g_b4 sz_b4 g_t12 sz_t12 g_b16 sz_b16 g_t34 sz_t34 g_b38 sz_b38 K78 hpb hpc hxi hyi hbk nq_t34_t12 ((by simp [own_ak, w2, k1, k2])) AX76 ((CHv.keep K79 (fun x hx => by cases hx) CH34.1)) ((own_Node_re wT N34_t12 K79)) ((own_Node_re wT N34_t34 K79))
    · skip
      have pre89 : own_G p e below T43 s₁ _ _ := fun t k => pre73 t (by
        refine XS.icmpYes X43.here hx rfl (pc0 := 120) (pc' := 131) rfl (hb hby at_120) rfl (XT.ii_ne_t k2) (by decide) (by decide) ?_
        refine XS.iload X43.here hx rfl (hb hby at_131) rfl ?_
        refine XS.iconst X43.here hx rfl (hb hby at_133) ?_
        exact k)
      by_cases k1 : pb = (1 : Int32)
      · skip
        have pre90 : own_G p e below T43 s₁ _ _ := fun t k => pre89 t (by
          refine XS.icmpNo X43.here hx rfl (hb hby at_134) rfl (XT.ii_ne_f k1) ?_
          refine XS.aload X43.here hx rfl (hb hby at_137) rfl rfl ?_
          refine XS.aload X43.here hx rfl (hb hby at_139) rfl rfl ?_
          exact k)
        have Ee91 := AQ43.1
        obtain ⟨cq92, kq92, q92a, q92b, q92c⟩ := isOf hZ e43 Ee91
        obtain ⟨_, _, ⟨T92, L92, kk92, nn92⟩, -, X92, ⟨Lc92, hQ92, l92, y92, z92⟩, st92⟩ := X43.virtualBack hx (y := own_y1) (z := own_y1) hown (mvT hZ (own_h hw 188 rfl)) (mvT hZ (own_h hw 189 rfl)) (notFace_of_selects (args := #[]) (mvT hZ (own_h hw 191 rfl))) (mvT hZ (own_h hw 191 rfl)) (mvT hZ (own_h hw 190 rfl)) (by decide) (backOf (W := 0) (rm_ad l Z a0 hw [] b38 t34 de kd [] T43.heap n0 Z43 (own_sta_keep SDE K45 (by intro x hx; cases hx)) (DA.keep K45 (by simp)) AQ43 (N34_t34.1.keep K46) (by simp) g_b38) hZ (own_h hw 192 rfl) (own_h hw 3 rfl) (by decide) (by decide)) q92a q92c (g := (mkF m 141 #[own_i p1, own_i p2, own_i p3, own_i p4, own_i pb, own_i pc, own_i xi, own_i yi, own_r b4, own_r t12, own_r b16, own_r t34, own_r b38, .unset, .unset, .unset, .unset, .unset, .unset, .unset] [(.ref t34), (.ref b38)])) rfl (by rw [hml]; rfl) (Steps.refl _) (argsL := [(.ref t34)]) (rest := []) (lenOf pd__Ljava_lang_Object__Z rfl) rfl (by show 2 * 0 + _ ≤ _; exact Nat.le_of_eq rfl) (hb hby at_141) (fun _ _ => ⟨rfl, e43, (by decide : 34 + 1 ≤ _), (by decide : 139 + 10 ≤ _)⟩)
        dsimp only [Pt.U, Pt.locs, Pt.cells, Pt.slots] at X92 l92 y92 z92 st92 hQ92
        subst l92 y92 z92
        obtain ⟨ws92, rfl, N92q, Kc92, side92, AX92⟩ := hQ92
        have N92 := Fr.app N43 N92q
        have K94 := K45.trans Kc92 (fun x hx => Or.inr (Nat.le_trans sz_b38 (side92 x hx)))
        have K95 := K46.trans Kc92 (fun x hx => Or.inr (Nat.le_trans szb_b38 (side92 x hx)))
        have Z92 : n0 ≤ T92.heap.size := Nat.le_trans Z43 Kc92.1
        have kp92 : T34.heap.size ≤ T92.heap.size := Nat.le_trans kp43 Kc92.1
        have e92 : T92.heap = T92.heap := rfl
        have pre96 : own_G p e below T92 s₁ _ _ := fun t k => pre90 t (by
          refine st92.trans ?_
          refine XT.pop X92.here hx rfl (hb hby at_144) rfl rfl ?_
          exact k)
        exact rs_0_2 l Z a0 hw ws p1 p2 p3 p4 em el mr de kd h0 n0 cz vf SEM EM SEL KE M1 SC hcz SF hvf SDE DA wT Bd hml pb pc xi yi bk ([t34]) b4 t12 b16 t34 b38 _ hZ hown T92 _ T92.heap (X92.more (cells' := 36) (slots' := 159) (by decide) (by decide)) e92 N92 Z92 _ S34 kp92 pre96 g_b4 sz_b4 g_t12 sz_t12 g_b16 sz_b16 g_t34 sz_t34 g_b38 sz_b38 K94 hpb hpc hxi hyi hbk nq_t34_t12 ((by simp [own_ak, w2, k1, k2])) AX92 ((CHv.keep K95 (fun x hx => by cases hx) CH34.1)) ((own_Node_re wT N34_t12 K95)) ((own_Node_re wT N34_t34 K95))
      · skip
        have pre97 : own_G p e below T43 s₁ _ _ := fun t k => pre89 t (by
          refine XS.icmpYes X43.here hx rfl (pc0 := 134) (pc' := 145) rfl (hb hby at_134) rfl (XT.ii_ne_t k1) (by decide) (by decide) ?_
          exact k)
        exact rs_0_2 l Z a0 hw ws p1 p2 p3 p4 em el mr de kd h0 n0 cz vf SEM EM SEL KE M1 SC hcz SF hvf SDE DA wT Bd hml pb pc xi yi bk ([]) b4 t12 b16 t34 b38 _ hZ hown T43 _ T43.heap (X43.more (cells' := 36) (slots' := 159) (by decide) (by decide)) e43 N43 Z43 _ S34 kp43 pre97 g_b4 sz_b4 g_t12 sz_t12 g_b16 sz_b16 g_t34 sz_t34 g_b38 sz_b38 K45 hpb hpc hxi hyi hbk nq_t34_t12 ((by simp [own_ak, w2, k1, k2])) AQ43 ((CHv.keep K46 (fun x hx => by cases hx) CH34.1)) ((own_Node_re wT N34_t12 K46)) ((own_Node_re wT N34_t34 K46))
theorem rm_0 (l : Launch) (Z : State) (a0 : Array Value) (hw : own_W a0 Z) (ws : List Jvm.Cond) (p1 p2 p3 p4 : Int32) (em el mr de : Addr) (kd : ClassId) (h0 : Heap) (n0 : Nat) (Z0 : n0 ≤ h0.size) (SEM : Sta Z h0 "java/util/ImmutableCollections" "EMPTY" "Ljava/lang/Object;" (.ref em)) (EM : Exa Z h0 em "java/lang/Object") (SEL : Sta Z h0 "java/util/ImmutableCollections" "EMPTY_LIST" "Ljava/util/ImmutableCollections$ListN;" (.ref el)) (KE : own_Kids Z h0 em h0.size el []) (M1 : Mir Z "[Ljava/lang/Object;" mr) {cz : Int32} (SC : Sta Z h0 "java/lang/String" "COMPACT_STRINGS" "Z" (.int cz)) (hcz : ¬ cz = 0) {vf : Value} (SF : Sta Z h0 "jdk/internal/util/Preconditions" "SIOOBE_FORMATTER" "Ljava/util/function/BiFunction;" vf) (hvf : vf.isRef = true) (SDE : Sta Z h0 "java/util/ArrayList" "DEFAULTCAPACITY_EMPTY_ELEMENTDATA" "[Ljava/lang/Object;" (.ref de)) (DA : Arv Z h0 de kd (.object "java/lang/Object") (0 : Int32) [] .null)  :
    MetFree l x (head1 (Jvm.Cond.code x code maxLocals ret :: ws) room_1) (fun a U => a = #[(.int p1), (.int p2), (.int p3), (.int p4)] ∧ Z.Warmed39 U.vm ∧ U.heap = h0 ∧ CHv Z own_EL U.vm h0) (fun _ _ _ _ _ => True) (fun _ U o U' => ∃ v L, o = .returned v ∧ Q_0 Z p1 p2 p3 p4 em el mr de kd h0 n0 v U'.heap L ∧ ReturnedEndW U o U' L room_1.cells room_1.slots) := by
  refine MetFree.of_bodySF (plainFor_of_name pn_nd) hisR ?_
  intro p e s m args below meth c s₁ Bd hml0 hP hK
  obtain ⟨rfl, hZ, hh, hH⟩ := hP
  have hx := Bd.exec
  have hby := Bd.bytes
  have hml : c.maxLocals = 20 := hml0
  have hown : s.vm.findClass "com/example/tributary/tributary/merge/TreeContainsPinLaw" = some m.cls := findClass_of_methodNamed Bd.named
  have hnm := (name_of_methodNamed Bd.named Bd.method).1
  have X0 : Stand p l e room_1 (s.setVm s.vm) m #[(.int p1), (.int p2), (.int p3), (.int p4)] below meth c s₁ [] 0 0 := Stand.of_body Bd
  have S0 : s.Since s.vm 0 := (State.WarmedH.refl s).since 0
  have kp0 : 0 ≤ h0.size := Nat.zero_le _
  have e0 : s₁.heap = h0 := by rw [← hh, Bd.state]; rfl
  have N0 := Fr.nil n0
  have pre0 : ∀ t, Steps p.tables e below (s₁.setTop (mkF m 0 #[own_i p1, own_i p2, own_i p3, own_i p4, .unset, .unset, .unset, .unset, .unset, .unset, .unset, .unset, .unset, .unset, .unset, .unset, .unset, .unset, .unset, .unset] [])) t → Steps p.tables e below (s₁.setTop (entryFrame m #[(.int p1), (.int p2), (.int p3), (.int p4)] maxLocals)) t := fun t k => castTop (ef_0 m p1 p2 p3 p4) k
  have K2 : Keep h0 h0 [] := Keep.refl h0 []
  have wT := (own_h hw 32 rfl)
  obtain ⟨pb, hv_pb⟩ : ∃ z : Int32, (p1 &&& (1 : Int32)) = z := ⟨_, rfl⟩
  have hpb : pb = 0 ∨ pb = 1 := by rw [← hv_pb]; exact own_and1 p1
  obtain ⟨pc, hv_pc⟩ : ∃ z : Int32, (((XT.ushr p1 (1 : Int32)) &&& (2147483647 : Int32)) % (3 : Int32)) = z := ⟨_, rfl⟩
  have hpc : pc = 0 ∨ pc = 1 ∨ pc = 2 := by rw [← hv_pc]; exact own_mod3 _
  obtain ⟨xi, hv_xi⟩ : ∃ z : Int32, (p3 &&& (3 : Int32)) = z := ⟨_, rfl⟩
  have hxi : own_q4 xi := by rw [← hv_xi]; exact own_and3 p3
  obtain ⟨yi, hv_yi⟩ : ∃ z : Int32, (p4 &&& (3 : Int32)) = z := ⟨_, rfl⟩
  have hyi : own_q4 yi := by rw [← hv_yi]; exact own_and3 p4
  have pre3 : own_G p e below s₁ s₁ _ _ := fun t k => pre0 t (by
    refine XS.iloadN X0.here hx rfl (hb hby at_0) rfl ?_
    refine XS.iconst X0.here hx rfl (hb hby at_1) ?_
    refine XS.iand X0.here hx rfl (hb hby at_2) rfl ?_
    show Steps p.tables e below (s₁.setTop (mkF m 3 #[own_i p1, own_i p2, own_i p3, own_i p4, .unset, .unset, .unset, .unset, .unset, .unset, .unset, .unset, .unset, .unset, .unset, .unset, .unset, .unset, .unset, .unset] [(.int (p1 &&& (1 : Int32)))])) _
    rw [hv_pb]
    refine XS.istore X0.here hx rfl (hb hby at_3) rfl (l' := #[own_i p1, own_i p2, own_i p3, own_i p4, own_i pb, .unset, .unset, .unset, .unset, .unset, .unset, .unset, .unset, .unset, .unset, .unset, .unset, .unset, .unset, .unset]) rfl ?_
    refine XS.iloadN X0.here hx rfl (hb hby at_5) rfl ?_
    refine XS.iconst X0.here hx rfl (hb hby at_6) ?_
    refine XT.iushr X0.here hx rfl (hb hby at_7) rfl ?_
    refine X0.ldcI hx hown (mvT hZ (own_h hw 0 rfl)) rfl (hb hby at_8) ?_
    refine XS.iand X0.here hx rfl (hb hby at_10) rfl ?_
    refine XS.iconst X0.here hx rfl (hb hby at_11) ?_
    refine XS.irem X0.here hx rfl (hb hby at_12) rfl (by decide) ?_
    show Steps p.tables e below (s₁.setTop (mkF m 13 #[own_i p1, own_i p2, own_i p3, own_i p4, own_i pb, .unset, .unset, .unset, .unset, .unset, .unset, .unset, .unset, .unset, .unset, .unset, .unset, .unset, .unset, .unset] [(.int (((XT.ushr p1 (1 : Int32)) &&& (2147483647 : Int32)) - (((XT.ushr p1 (1 : Int32)) &&& (2147483647 : Int32)) / (3 : Int32)) * (3 : Int32)))])) _
    rw [own_irem]
    show Steps p.tables e below (s₁.setTop (mkF m 13 #[own_i p1, own_i p2, own_i p3, own_i p4, own_i pb, .unset, .unset, .unset, .unset, .unset, .unset, .unset, .unset, .unset, .unset, .unset, .unset, .unset, .unset, .unset] [(.int (((XT.ushr p1 (1 : Int32)) &&& (2147483647 : Int32)) % (3 : Int32)))])) _
    rw [hv_pc]
    refine XS.istore X0.here hx rfl (hb hby at_13) rfl (l' := #[own_i p1, own_i p2, own_i p3, own_i p4, own_i pb, own_i pc, .unset, .unset, .unset, .unset, .unset, .unset, .unset, .unset, .unset, .unset, .unset, .unset, .unset, .unset]) rfl ?_
    refine XS.iloadN X0.here hx rfl (hb hby at_15) rfl ?_
    refine XS.iconst X0.here hx rfl (hb hby at_16) ?_
    refine XS.iand X0.here hx rfl (hb hby at_17) rfl ?_
    show Steps p.tables e below (s₁.setTop (mkF m 18 #[own_i p1, own_i p2, own_i p3, own_i p4, own_i pb, own_i pc, .unset, .unset, .unset, .unset, .unset, .unset, .unset, .unset, .unset, .unset, .unset, .unset, .unset, .unset] [(.int (p3 &&& (3 : Int32)))])) _
    rw [hv_xi]
    refine XS.istore X0.here hx rfl (hb hby at_18) rfl (l' := #[own_i p1, own_i p2, own_i p3, own_i p4, own_i pb, own_i pc, own_i xi, .unset, .unset, .unset, .unset, .unset, .unset, .unset, .unset, .unset, .unset, .unset, .unset, .unset]) rfl ?_
    refine XS.iloadN X0.here hx rfl (hb hby at_20) rfl ?_
    refine XS.iconst X0.here hx rfl (hb hby at_21) ?_
    refine XS.iand X0.here hx rfl (hb hby at_22) rfl ?_
    show Steps p.tables e below (s₁.setTop (mkF m 23 #[own_i p1, own_i p2, own_i p3, own_i p4, own_i pb, own_i pc, own_i xi, .unset, .unset, .unset, .unset, .unset, .unset, .unset, .unset, .unset, .unset, .unset, .unset, .unset] [(.int (p4 &&& (3 : Int32)))])) _
    rw [hv_yi]
    refine XS.istore X0.here hx rfl (hb hby at_23) rfl (l' := #[own_i p1, own_i p2, own_i p3, own_i p4, own_i pb, own_i pc, own_i xi, own_i yi, .unset, .unset, .unset, .unset, .unset, .unset, .unset, .unset, .unset, .unset, .unset, .unset]) rfl ?_
    exact k)
  obtain ⟨T4, h4, X4, e4, E4, A4, D4, -, st4⟩ := newO X0 hx hZ hown (own_h hw 1 rfl) (own_h hw 2 rfl) (own_h hw 3 rfl) e0 (g := (mkF m 25 #[own_i p1, own_i p2, own_i p3, own_i p4, own_i pb, own_i pc, own_i xi, own_i yi, .unset, .unset, .unset, .unset, .unset, .unset, .unset, .unset, .unset, .unset, .unset, .unset] [])) rfl (hb hby at_25) (by decide) (by decide)
  obtain ⟨b4, g4⟩ : ∃ z, z = h0.size := ⟨_, rfl⟩
  rw [← g4] at A4 D4 st4
  have g_b4 : n0 ≤ b4 := Nat.le_trans Z0 (Nat.le_of_eq g4.symm)
  have sz_b4 : h0.size ≤ b4 := Nat.le_trans K2.1 (Nat.le_of_eq g4.symm)
  have Z4 : n0 ≤ h4.size := Nat.le_trans Z0 E4.1
  have kp4 : 0 ≤ h4.size := Nat.le_trans kp0 E4.1
  have K6 := K2.ext E4
  have F4_modCount : Fld Z h4 b4 "java/util/AbstractList" "modCount" "I" (.int (0 : Int32)) := D4 (Or.inl (own_h hw 23 rfl)) (ty := .int) (by decide)
  have F4_elementData : Fld Z h4 b4 "java/util/ArrayList" "elementData" "[Ljava/lang/Object;" .null := D4 (Or.inl (own_h hw 26 rfl)) (ty := (.array (.object "java/lang/Object"))) (by decide)
  have F4_size : Fld Z h4 b4 "java/util/ArrayList" "size" "I" (.int (0 : Int32)) := D4 (Or.inl (own_h hw 80 rfl)) (ty := .int) (by decide)
  have pre7 : own_G p e below T4 s₁ _ _ := fun t k => pre3 t (by
    refine st4 _ ?_
    refine XS.dup X4.here hx rfl (hb hby at_28) rfl rfl ?_
    exact k)
  obtain ⟨_, _, ⟨T8, L8, kk8, nn8⟩, -, X8, ⟨Lc8, hQ8, l8, y8, z8⟩, st8⟩ := X4.specialBack hx (y := own_y3) rfl hown (mvT hZ (own_h hw 4 rfl)) (mvT hZ (own_h hw 5 rfl)) (mvT hZ (own_h hw 6 rfl)) (by decide) (backOf (W := 1) (rm_ali l Z a0 hw [] b4 de h4 n0 Z4 (own_sta_keep SDE K6 (by intro x hx; cases hx)) A4 F4_modCount F4_elementData F4_size g_b4) hZ (own_h hw 6 rfl) (own_h hw 3 rfl) (by decide) (by decide)) (g := (mkF m 29 #[own_i p1, own_i p2, own_i p3, own_i p4, own_i pb, own_i pc, own_i xi, own_i yi, .unset, .unset, .unset, .unset, .unset, .unset, .unset, .unset, .unset, .unset, .unset, .unset] [(.ref b4), (.ref b4)])) rfl (by rw [hml]; rfl) (Steps.refl _) (a := b4) (argsL := []) (rest := [(.ref b4)]) (lenOf pd___V rfl) rfl (by show 2 * 0 + _ ≤ _; exact Nat.le_of_eq rfl) (hb hby at_29) (fun _ _ => ⟨rfl, e4, (by decide : 1 + 0 ≤ _), (by decide : 3 + 0 ≤ _)⟩)
  dsimp only [Pt.U, Pt.locs, Pt.cells, Pt.slots] at X8 l8 y8 z8 st8 hQ8
  subst l8 y8 z8
  obtain ⟨rfl, N8q, Kc8, Fm8, Fe8, Fz8⟩ := hQ8
  have N8 := Fr.app N0 N8q
  have f9_0 := A4.keep Kc8
  have K10 := K6.trans Kc8 (fun x hx => by cases List.mem_singleton.mp hx; exact (Or.inr sz_b4))
  have Z8 : n0 ≤ T8.heap.size := Nat.le_trans Z4 Kc8.1
  have kp8 : 0 ≤ T8.heap.size := Nat.le_trans kp4 Kc8.1
  have e8 : T8.heap = T8.heap := rfl
  have AQ8 : own_AL Z T8.heap de b4 [] := ⟨f9_0, ⟨_, Fm8⟩, Fz8, Or.inl ⟨rfl, Fe8⟩⟩
  have pre11 : own_G p e below T8 s₁ _ _ := fun t k => pre7 t (by
    refine st8.trans ?_
    refine XS.astore X8.here hx rfl (hb hby at_32) rfl rfl (l' := #[own_i p1, own_i p2, own_i p3, own_i p4, own_i pb, own_i pc, own_i xi, own_i yi, own_r b4, .unset, .unset, .unset, .unset, .unset, .unset, .unset, .unset, .unset, .unset, .unset]) rfl ?_
    refine XS.aload X8.here hx rfl (hb hby at_34) rfl rfl ?_
    exact k)
  obtain ⟨_, _, ⟨T12, L12, kk12, nn12⟩, -, Y12, Sx12, gr12, ⟨Lc12, hQ12, l12, y12, z12, CH12⟩, st12⟩ := Jvm.RoadKit.callSS X8 hx (y := own_y10) hown (mvT hZ (own_h hw 27 rfl)) (mvT hZ (own_h hw 28 rfl)) (mvT hZ (own_h hw 29 rfl)) (mvT hZ (own_h hw 30 rfl)) (by decide) (backOfSH (W := 0) (rm_nd l Z a0 hw [] b4 em el mr de [] (fun _ => 1) T8.heap n0 Z8 (own_sta_keep SEM K10 (by intro x hx; cases hx)) (EM.keep K10) (own_sta_keep SEL K10 (by intro x hx; cases hx)) (own_Kids_re wT KE K10) M1 (own_sta_keep SC K10 (by intro x hx; cases hx)) hcz (own_sta_keep SF K10 (by intro x hx; cases hx)) hvf (own_sta_keep SDE K10 (by intro x hx; cases hx)) AQ8 (fun x hx => by cases hx) (Nat.zero_le _)) hZ (own_h hw 30 rfl) (own_h hw 29 rfl) (by decide) (by decide) (own_EW hw) (CHv.keep K10 (fun x hx => by cases hx) hH)) (g := (mkF m 36 #[own_i p1, own_i p2, own_i p3, own_i p4, own_i pb, own_i pc, own_i xi, own_i yi, own_r b4, .unset, .unset, .unset, .unset, .unset, .unset, .unset, .unset, .unset, .unset, .unset] [(.ref b4)])) rfl (by rw [hml]; rfl) (argsL := [(.ref b4)]) (rest := []) (lenOf pd__Ljava_util_ArrayList__Lcom_example_tributary_tributary_merge_Tree_ rfl) rfl (by show 2 * 0 + _ ≤ _; exact Nat.le_of_eq rfl) (hb hby at_36) (fun _ _ => ⟨rfl, e8, (by decide : 1 + 15 ≤ _), (by decide : 3 + 60 ≤ _)⟩)
  dsimp only [Pt.U, Pt.locs, Pt.cells, Pt.slots] at Y12 Sx12 gr12 l12 y12 z12 st12 hQ12 CH12
  subst l12 y12 z12
  obtain ⟨X12, S12, hZ, hown⟩ := rebS S0 (Nat.le_trans kp8 (Nat.le_of_eq (congrArg Array.size e8.symm))) Y12 Sx12 gr12 hZ hown
  obtain ⟨t12, rfl, N12q, Kc12, g_t12, sx12, Nd12⟩ := hQ12
  have N12 := Fr.app N8 N12q
  have K14 := K10.trans Kc12 (fun x hx => by cases hx)
  have Z12 : n0 ≤ T12.heap.size := Nat.le_trans Z8 Kc12.1
  have kp12 : T12.heap.size ≤ T12.heap.size := Nat.le_refl _
  have e12 : T12.heap = T12.heap := rfl
  have sz_t12 : h0.size ≤ t12 := Nat.le_trans K10.1 sx12
  have N12_t12 := Nd12
  have Kb12 : Keep T12.heap T12.heap [] := Keep.refl _ _
  have pre15 : own_G p e below T12 s₁ _ _ := fun t k => pre11 t (by
    refine st12.trans ?_
    refine XS.astore X12.here hx rfl (hb hby at_39) rfl rfl (l' := #[own_i p1, own_i p2, own_i p3, own_i p4, own_i pb, own_i pc, own_i xi, own_i yi, own_r b4, own_r t12, .unset, .unset, .unset, .unset, .unset, .unset, .unset, .unset, .unset, .unset]) rfl ?_
    exact k)
  obtain ⟨T16, h16, X16, e16, E16, A16, D16, -, st16⟩ := newO X12 hx hZ hown (own_h hw 1 rfl) (own_h hw 2 rfl) (own_h hw 3 rfl) e12 (g := (mkF m 41 #[own_i p1, own_i p2, own_i p3, own_i p4, own_i pb, own_i pc, own_i xi, own_i yi, own_r b4, own_r t12, .unset, .unset, .unset, .unset, .unset, .unset, .unset, .unset, .unset, .unset] [])) rfl (hb hby at_41) (by decide) (by decide)
  obtain ⟨b16, g16⟩ : ∃ z, z = T12.heap.size := ⟨_, rfl⟩
  rw [← g16] at A16 D16 st16
  have g_b16 : n0 ≤ b16 := Nat.le_trans Z12 (Nat.le_of_eq g16.symm)
  have sz_b16 : h0.size ≤ b16 := Nat.le_trans K14.1 (Nat.le_of_eq g16.symm)
  have szb_b16 : T12.heap.size ≤ b16 := Nat.le_trans Kb12.1 (Nat.le_of_eq g16.symm)
  have Z16 : n0 ≤ h16.size := Nat.le_trans Z12 E16.1
  have kp16 : T12.heap.size ≤ h16.size := Nat.le_trans kp12 E16.1
  have K18 := K14.ext E16
  have K19 := Kb12.ext E16
  have F16_modCount : Fld Z h16 b16 "java/util/AbstractList" "modCount" "I" (.int (0 : Int32)) := D16 (Or.inl (own_h hw 23 rfl)) (ty := .int) (by decide)
  have F16_elementData : Fld Z h16 b16 "java/util/ArrayList" "elementData" "[Ljava/lang/Object;" .null := D16 (Or.inl (own_h hw 26 rfl)) (ty := (.array (.object "java/lang/Object"))) (by decide)
  have F16_size : Fld Z h16 b16 "java/util/ArrayList" "size" "I" (.int (0 : Int32)) := D16 (Or.inl (own_h hw 80 rfl)) (ty := .int) (by decide)
  have pre20 : own_G p e below T16 s₁ _ _ := fun t k => pre15 t (by
    refine st16 _ ?_
    refine XS.dup X16.here hx rfl (hb hby at_44) rfl rfl ?_
    exact k)
  obtain ⟨_, _, ⟨T21, L21, kk21, nn21⟩, -, X21, ⟨Lc21, hQ21, l21, y21, z21⟩, st21⟩ := X16.specialBack hx (y := own_y3) rfl hown (mvT hZ (own_h hw 4 rfl)) (mvT hZ (own_h hw 5 rfl)) (mvT hZ (own_h hw 6 rfl)) (by decide) (backOf (W := 1) (rm_ali l Z a0 hw [] b16 de h16 n0 Z16 (own_sta_keep SDE K18 (by intro x hx; cases hx)) A16 F16_modCount F16_elementData F16_size g_b16) hZ (own_h hw 6 rfl) (own_h hw 3 rfl) (by decide) (by decide)) (g := (mkF m 45 #[own_i p1, own_i p2, own_i p3, own_i p4, own_i pb, own_i pc, own_i xi, own_i yi, own_r b4, own_r t12, .unset, .unset, .unset, .unset, .unset, .unset, .unset, .unset, .unset, .unset] [(.ref b16), (.ref b16)])) rfl (by rw [hml]; rfl) (Steps.refl _) (a := b16) (argsL := []) (rest := [(.ref b16)]) (lenOf pd___V rfl) rfl (by show 2 * 0 + _ ≤ _; exact Nat.le_of_eq rfl) (hb hby at_45) (fun _ _ => ⟨rfl, e16, (by decide : 17 + 0 ≤ _), (by decide : 66 + 0 ≤ _)⟩)
  dsimp only [Pt.U, Pt.locs, Pt.cells, Pt.slots] at X21 l21 y21 z21 st21 hQ21
  subst l21 y21 z21
  obtain ⟨rfl, N21q, Kc21, Fm21, Fe21, Fz21⟩ := hQ21
  have N21 := Fr.app N12 N21q
  have f22_0 := A16.keep Kc21
  have K23 := K18.trans Kc21 (fun x hx => by cases List.mem_singleton.mp hx; exact (Or.inr sz_b16))
  have K24 := K19.trans Kc21 (fun x hx => by cases List.mem_singleton.mp hx; exact (Or.inr szb_b16))
  have Z21 : n0 ≤ T21.heap.size := Nat.le_trans Z16 Kc21.1
  have kp21 : T12.heap.size ≤ T21.heap.size := Nat.le_trans kp16 Kc21.1
  have e21 : T21.heap = T21.heap := rfl
  have AQ21 : own_AL Z T21.heap de b16 [] := ⟨f22_0, ⟨_, Fm21⟩, Fz21, Or.inl ⟨rfl, Fe21⟩⟩
  have pre25 : own_G p e below T21 s₁ _ _ := fun t k => pre20 t (by
    refine st21.trans ?_
    refine XS.astore X21.here hx rfl (hb hby at_48) rfl rfl (l' := #[own_i p1, own_i p2, own_i p3, own_i p4, own_i pb, own_i pc, own_i xi, own_i yi, own_r b4, own_r t12, own_r b16, .unset, .unset, .unset, .unset, .unset, .unset, .unset, .unset, .unset]) rfl ?_
    refine XS.iload X21.here hx rfl (hb hby at_50) rfl ?_
    refine XS.iconst X21.here hx rfl (hb hby at_52) ?_
    exact k)
  by_cases q2 : pc = (2 : Int32)
  · skip
    have pre26 : own_G p e below T21 s₁ _ _ := fun t k => pre25 t (by
      refine XS.icmpNo X21.here hx rfl (hb hby at_53) rfl (XT.ii_ne_f q2) ?_
      refine XS.aload X21.here hx rfl (hb hby at_56) rfl rfl ?_
      refine XS.aload X21.here hx rfl (hb hby at_58) rfl rfl ?_
      exact k)
    have Ee27 := AQ21.1
    obtain ⟨cq28, kq28, q28a, q28b, q28c⟩ := isOf hZ e21 Ee27
    obtain ⟨_, _, ⟨T28, L28, kk28, nn28⟩, -, X28, ⟨Lc28, hQ28, l28, y28, z28⟩, st28⟩ := X21.virtualBack hx (y := own_y1) (z := own_y1) hown (mvT hZ (own_h hw 188 rfl)) (mvT hZ (own_h hw 189 rfl)) (notFace_of_selects (args := #[]) (mvT hZ (own_h hw 191 rfl))) (mvT hZ (own_h hw 191 rfl)) (mvT hZ (own_h hw 190 rfl)) (by decide) (backOf (W := 0) (rm_ad l Z a0 hw [] b16 t12 de kd [] T21.heap n0 Z21 (own_sta_keep SDE K23 (by intro x hx; cases hx)) (DA.keep K23 (by simp)) AQ21 (N12_t12.1.keep K24) (by simp) g_b16) hZ (own_h hw 192 rfl) (own_h hw 3 rfl) (by decide) (by decide)) q28a q28c (g := (mkF m 60 #[own_i p1, own_i p2, own_i p3, own_i p4, own_i pb, own_i pc, own_i xi, own_i yi, own_r b4, own_r t12, own_r b16, .unset, .unset, .unset, .unset, .unset, .unset, .unset, .unset, .unset] [(.ref t12), (.ref b16)])) rfl (by rw [hml]; rfl) (Steps.refl _) (argsL := [(.ref t12)]) (rest := []) (lenOf pd__Ljava_lang_Object__Z rfl) rfl (by show 2 * 0 + _ ≤ _; exact Nat.le_of_eq rfl) (hb hby at_60) (fun _ _ => ⟨rfl, e21, (by decide : 17 + 1 ≤ _), (by decide : 66 + 10 ≤ _)⟩)
    dsimp only [Pt.U, Pt.locs, Pt.cells, Pt.slots] at X28 l28 y28 z28 st28 hQ28
    subst l28 y28 z28
    obtain ⟨ws28, rfl, N28q, Kc28, side28, AX28⟩ := hQ28
    have N28 := Fr.app N21 N28q
    have K30 := K23.trans Kc28 (fun x hx => Or.inr (Nat.le_trans sz_b16 (side28 x hx)))
    have K31 := K24.trans Kc28 (fun x hx => Or.inr (Nat.le_trans szb_b16 (side28 x hx)))
    have Z28 : n0 ≤ T28.heap.size := Nat.le_trans Z21 Kc28.1
    have kp28 : T12.heap.size ≤ T28.heap.size := Nat.le_trans kp21 Kc28.1
    have e28 : T28.heap = T28.heap := rfl
    have pre32 : own_G p e below T28 s₁ _ _ := fun t k => pre26 t (by
      refine st28.trans ?_
      refine XT.pop X28.here hx rfl (hb hby at_63) rfl rfl ?_
      exact k)
    exact rs_0_1 l Z a0 hw ws p1 p2 p3 p4 em el mr de kd h0 n0 cz vf SEM EM SEL KE M1 SC hcz SF hvf SDE DA wT Bd hml pb pc xi yi ([t12]) b4 t12 b16 _ hZ hown T28 _ T28.heap X28 e28 N28 Z28 _ S12 kp28 pre32 g_b4 sz_b4 g_t12 sz_t12 g_b16 sz_b16 K30 hpb hpc hxi hyi ((by simp [own_bk, q2])) AX28 ((CHv.keep K31 (fun x hx => by cases hx) CH12.1)) ((own_Node_re wT N12_t12 K31))
  · skip
    have pre33 : own_G p e below T21 s₁ _ _ := fun t k => pre25 t (by
      refine XS.icmpYes X21.here hx rfl (pc0 := 53) (pc' := 64) rfl (hb hby at_53) rfl (XT.ii_ne_t q2) (by decide) (by decide) ?_
      exact k)
    exact rs_0_1 l Z a0 hw ws p1 p2 p3 p4 em el mr de kd h0 n0 cz vf SEM EM SEL KE M1 SC hcz SF hvf SDE DA wT Bd hml pb pc xi yi ([]) b4 t12 b16 _ hZ hown T21 _ T21.heap (X21.more (cells' := 18) (slots' := 76) (by decide) (by decide)) e21 N21 Z21 _ S12 kp21 pre33 g_b4 sz_b4 g_t12 sz_t12 g_b16 sz_b16 K23 hpb hpc hxi hyi ((by simp [own_bk, q2])) AQ21 ((CHv.keep K24 (fun x hx => by cases hx) CH12.1)) ((own_Node_re wT N12_t12 K24))
theorem own_e0 {s : State} {args : Array Value} {t : Jvm.Term} {a : Addr} (hf : Fit s) (ev : t.eval args s none [] s = some (.ref a)) (r1 : (Jvm.Cond.arrayOf t (.object "java/lang/Object")).value args s none s [] = some true) (r2 : (Jvm.Cond.eq (Jvm.Term.length t) (Jvm.Term.int 0)).value args s none s [] = some true) : ∃ k, Arv s s.heap a k (.object "java/lang/Object") (0 : Int32) [] .null := by
  obtain ⟨cA, HA⟩ := Arr.start ev r1
  have hlen := Cond.eq_int (Cond.before_iff.mpr r2) (rfl : (Jvm.Term.int 0).eval args s none [] s = some (.int 0))
  obtain ⟨b, D, ev', harr, hsm, hsz⟩ := Jvm.Lib.length_spec hlen
  have hq : a = b := Value.ref.inj (Option.some.inj (ev.symm.trans ev'))
  subst hq
  have hD := (State.arrayAt?_spec harr).1
  have hcD : cA = D := Option.some.inj (HA.1.symm.trans hD)
  subst hcD
  exact ⟨_, Arv.start hf HA hsm (Value.int.inj hsz).symm (by decide) rfl trivial⟩
theorem own_fldt {s : State} {args : Array Value} {t : Jvm.Term} {a : Addr} {c n d : String} {v : Value} (ev : t.eval args s none [] s = some (.ref a)) (h : (Jvm.Term.field t c n d).eval args s none [] s = some v) : Fld s s.heap a c n d v := by
  refine Fld.start ?_
  simpa only [Jvm.Term.eval, ev, Option.bind_eq_bind, Option.bind_some] using h
theorem own_not {args : Array Value} {s : State} {c : Jvm.Cond} (h : (Jvm.Cond.not c).value args s none s [] = some true) : c.value args s none s [] = some false := by
  simp only [Cond.value] at h
  cases hc : c.value args s none s [] with
  | none => simp [hc] at h
  | some b => cases b <;> simp [hc] at h ⊢
theorem own_ne0 {args : Array Value} {s : State} {t : Jvm.Term} {x : Int32} (ev : t.eval args s none [] s = some (.int x)) (h : (Jvm.Cond.not (Jvm.Cond.eq t (Jvm.Term.int 0))).value args s none s [] = some true) : ¬ x = 0 := fun q => by
  have e : (Jvm.Cond.eq t (Jvm.Term.int 0)).value args s none s [] = some true := by
    subst q; rw [Cond.eq_ints ev (rfl : (Jvm.Term.int 0).eval args s none [] s = some (.int 0))]; rfl
  have h3 := own_not h
  rw [e] at h3; cases h3
theorem own_isref {args : Array Value} {s : State} {t : Jvm.Term} (h : (Jvm.Cond.isRef t).value args s none s [] = some true) : ∃ v, t.eval args s none [] s = some v ∧ v.isRef = true := by
  simp only [Cond.value] at h
  cases ht : t.eval args s none [] s with
  | none => simp [ht] at h
  | some v => exact ⟨v, rfl, by cases v <;> simp [ht, Value.isRef] at h ⊢⟩
theorem comes_1 {Post : Tables → Env → Array Value → State → Outcome → State → Prop} (hpost : ∀ tb e args s v u, (limb_1_1.after args s (.returned v) u = true ∧ limb_1_2.after args s (.returned v) u = true ∧ True) → ReturnedEndW s (.returned v) u (Jvm.fieldLocs frame_1_writes args s ++ Jvm.arrayLocs frame_1_arrays args s ++ Jvm.staticLocs frame_1_statics s) 80 1536 → Post tb e args s (.returned v) u) :
    ArmFor flags0 classFile x code maxLocals ret World_1 tables_1 room_1 Calls_1 rest_1 Pre_1 Post := by
  intro l hfl _ _ p e ha hc hk s m args below hf hA hF happ hP
  obtain ⟨hcalls, hrest, hpre⟩ := hP
  obtain ⟨-, -, -, hnamed, -, -, -, hat⟩ := (Spec.applies_iff hf).mp happ
  obtain ⟨hg, hn⟩ := and_e (Cond.before_iff.mp (show (Jvm.Cond.and given_1 narrow_1).before args s = true from hpre))
  obtain ⟨gc, hg⟩ := and_e hg
  obtain ⟨gi0, hg⟩ := and_e hg
  obtain ⟨gi1, hg⟩ := and_e hg
  obtain ⟨gi2, hg⟩ := and_e hg
  have gi3 := hg
  obtain ⟨w0, w1, w2, w3, rfl⟩ : ∃ w0 w1 w2 w3 : Value, args = #[w0, w1, w2, w3] := by
    have hs : args.size = 4 := by simpa [Cond.value, given_1] using gc
    obtain ⟨L⟩ := args
    match L, hs with
    | [w0, w1, w2, w3], _ => exact ⟨w0, w1, w2, w3, rfl⟩
  have hw := fun d (hd : d ∈ tables_1) => atoms_spec (ws := Jvm.Cond.code x code maxLocals ret :: tables_1) hat d (List.mem_cons_of_mem _ hd)
  have hfit : Fit s := fun {y c} hc i hi => by
    obtain ⟨ha, rfl⟩ := Array.getElem?_eq_some_iff.mp hc
    have q := List.all_eq_true.mp ((Array.all_eq_true_iff_forall_mem.mp hF) _ (Array.getElem_mem ha)) i (List.mem_range.mpr hi)
    simpa [Array.getElem?_eq_getElem hi] using q
  obtain ⟨i0, ei0⟩ := is_v gi0
  obtain rfl : w0 = (.int i0) := Option.some.inj ei0
  obtain ⟨i1, ei1⟩ := is_v gi1
  obtain rfl : w1 = (.int i1) := Option.some.inj ei1
  obtain ⟨i2, ei2⟩ := is_v gi2
  obtain rfl : w2 = (.int i2) := Option.some.inj ei2
  obtain ⟨i3, ei3⟩ := is_v gi3
  obtain rfl : w3 = (.int i3) := Option.some.inj ei3
  have hr0 := Cond.before_iff.mp (show rest_1_c.before _ s = true from hrest)
  obtain ⟨r0, hr0⟩ := and_e hr0
  obtain ⟨r1, hr0⟩ := and_e hr0
  obtain ⟨r2, hr0⟩ := and_e hr0
  obtain ⟨r3, hr0⟩ := and_e hr0
  obtain ⟨r4, hr0⟩ := and_e hr0
  obtain ⟨r5, hr0⟩ := and_e hr0
  obtain ⟨r6, hr0⟩ := and_e hr0
  obtain ⟨r7, hr0⟩ := and_e hr0
  obtain ⟨r8, hr0⟩ := and_e hr0
  obtain ⟨r9, hr0⟩ := and_e hr0
  obtain ⟨r10, hr0⟩ := and_e hr0
  obtain ⟨r11, hr0⟩ := and_e hr0
  obtain ⟨r12, hr0⟩ := and_e hr0
  obtain ⟨r13, hr0⟩ := and_e hr0
  obtain ⟨r14, hr0⟩ := and_e hr0
  obtain ⟨r15, hr0⟩ := and_e hr0
  obtain ⟨r16, hr0⟩ := and_e hr0
  obtain ⟨r17, hr0⟩ := and_e hr0
  obtain ⟨r18, hr0⟩ := and_e hr0
  obtain ⟨r19, hr0⟩ := and_e hr0
  obtain ⟨r20, hr0⟩ := and_e hr0
  obtain ⟨r21, hr0⟩ := and_e hr0
  obtain ⟨r22, hr0⟩ := and_e hr0
  obtain ⟨r23, hr0⟩ := and_e hr0
  obtain ⟨r24, hr0⟩ := and_e hr0
  obtain ⟨r25, hr0⟩ := and_e hr0
  obtain ⟨r26, hr0⟩ := and_e hr0
  obtain ⟨r27, hr0⟩ := and_e hr0
  obtain ⟨de, evD⟩ := exa_v r7
  have SDE : Sta s s.heap "java/util/ArrayList" "DEFAULTCAPACITY_EMPTY_ELEMENTDATA" "[Ljava/lang/Object;" (.ref de) := Sta.start evD (Or.inr ⟨(own_h hw 3 rfl), Cond.before_iff.mpr r2⟩)
  obtain ⟨kd, DA⟩ := own_e0 hfit evD r6 r8
  obtain ⟨em, evE⟩ := exa_v r27
  have SEM : Sta s s.heap "java/util/ImmutableCollections" "EMPTY" "Ljava/lang/Object;" (.ref em) := Sta.start evE (Or.inl (Cond.before_iff.mpr r26))
  have EM := Exa.start evE r27
  obtain ⟨el, evL⟩ := exa_v r11
  have SEL : Sta s s.heap "java/util/ImmutableCollections" "EMPTY_LIST" "Ljava/util/ImmutableCollections$ListN;" (.ref el) := Sta.start evL (Or.inl (Cond.before_iff.mpr r10))
  have EEL := Exa.start evL r11
  obtain ⟨eb, evB⟩ := exa_v r13
  obtain ⟨kb, VB⟩ := own_e0 hfit evB r12 r14
  have KE : own_Kids s s.heap em s.heap.size el [] := ⟨EEL.lt, Or.inl ⟨rfl, EEL, eb, kb, VB.lt, own_fldt evL evB, VB⟩⟩
  obtain ⟨cM, kM, mr, m1, m2, m3⟩ := hcalls.1
  have M1 : Mir s "[Ljava/lang/Object;" mr := ⟨cM, kM, m1, m2, m3⟩
  obtain ⟨cz, evC⟩ := is_v r17
  have SC : Sta s s.heap "java/lang/String" "COMPACT_STRINGS" "Z" (.int cz) := Sta.start evC (Or.inl (Cond.before_iff.mpr r16))
  have hcz : ¬ cz = 0 := own_ne0 evC r18
  obtain ⟨vf, evF, hvf⟩ := own_isref r24
  have SF : Sta s s.heap "jdk/internal/util/Preconditions" "SIOOBE_FORMATTER" "Ljava/util/function/BiFunction;" vf := Sta.start evF (Or.inl (Cond.before_iff.mpr r23))
  have hHst : CHv s own_EL s.vm s.heap := CHv.start (own_EW hw) (fun p hp => hcalls.2.1 p (by simpa [own_EL, consts_1] using hp)) (Cond.before_iff.mpr r18) (own_h hw 37 rfl) (own_h hw 36 rfl)
  obtain ⟨n, o, h1, h2, h3, _, L, rfl, ⟨rfl, N⟩, hq⟩ := rm_0 l s _ hw tables_1 i0 i1 i2 i3 em el mr de kd s.heap s.heap.size (Nat.le_refl _) SEM EM SEL KE M1 SC hcz SF hvf SDE DA p e ha hc hk s m _ below hf ((Spec.applies_iff_loose hf).mp happ).1 ⟨rfl, State.Warmed39.refl s, rfl, hHst⟩ trivial
  refine ⟨n, _, h1, h2, h3, hpost _ _ _ _ _ _ ⟨Cond.after_iff.mpr rfl, Cond.after_iff.mpr (eq_i res_at (Term.int_eval (1)) rfl), trivial⟩ ⟨hq.1, hq.2.1, hq.2.2.1, (hq.2.2.2.sift fun y hy => Or.inr (N y hy)).mono (by decide) (by decide)⟩⟩
theorem main_1_1 : Claimed_1_1 := comes_1 fun _ _ _ _ _ _ h hF => ⟨h.1, hF⟩
theorem main_1_2 : Claimed_1_2 := comes_1 fun _ _ _ _ _ _ h hF => ⟨h.2.1, hF⟩
end Jvm.Pilot.@@N@@
namespace Jvm.Pilot.@@N@@
open Jvm Jvm.ClassFile Sem Op Lib Jvm.Free Jvm.Stand Jvm.Pilot.@@N@@.Jvm.D
/-! MADE BY PROGRAM (witnessworld.py) out of the Statement's table words and the real class files: 39 classes; the members and pool entries that the words name. The judged class is class 1, her method 3. -/
namespace start1
open Jvm.ClassFile
def u (s : String) : CpInfo := .utf8 (stringToUtf16 s)
/-- a pool by its gaps: so many unusable entries, then the entry; so many at the end -/
def gap : Nat → List CpInfo → List CpInfo
  | 0, r => r
  | n + 1, r => .unusable :: gap n r
def poolList (es : List (Nat × CpInfo)) (last : Nat) : List CpInfo := es.foldr (fun e r => gap e.1 (e.2 :: r)) (gap last [])
def pool (es : List (Nat × CpInfo)) (last : Nat) : Array CpInfo := ⟨poolList es last⟩
def fileOf (pool : Array CpInfo) (this : Nat) (attrs : Array Attribute := #[]) (ms : Array MethodInfo := #[]) (fl : Nat := 33) (sup : Nat := 0) (ifs : Array Nat := #[]) (fds : Array FieldInfo := #[]) : ClassFile where
  minorVersion := 0
  majorVersion := 65
  constantPool := pool
  accessFlags := fl
  thisClass := this
  superClass := sup
  interfaces := ifs
  fields := fds
  methods := ms
  attributes := attrs
def plain (name : String) (sup : Option ClassId) : Class where
  name := name
  kind := .ordinary
  loader := none
  accessFlags := 33
  super := sup
  interfaces := #[]
  cf := none
  fields := #[]
  methods := #[]
  instanceTypes := #[]
  staticTypes := #[]
  resolved := #[]
  callSites := []
  init := .initialized
  statics := none
  mirror := none

def pool0 : Array CpInfo := pool [(5, u "<init>"), (0, u "()V"), (1, .class_ 10), (1, u "java/lang/Object"), (0, u "getClass"), (0, u "()Ljava/lang/Class;")] 111

def k0c0 : Code := { maxStack := 0, maxLocals := 1, code := object_method_1_code, exceptionTable := #[], attributes := #[] }
def k0m0 : Method := { name := "<init>", desc := "()V", sig := { parameters := [], returnType := none }, accessFlags := 1, code := some k0c0 }
def k0m1 : Method := { name := "getClass", desc := "()Ljava/lang/Class;", sig := { parameters := [], returnType := some (.object "java/lang/Class") }, accessFlags := 273, code := none }
/-- java/lang/Object -/
def k0 : Class := { plain "java/lang/Object" none with
  accessFlags := 33
  interfaces := #[]
  cf := some (fileOf pool0 8 #[] #[{ accessFlags := 1, nameIndex := 5, descriptorIndex := 6, attributes := #[] }, { accessFlags := 273, nameIndex := 11, descriptorIndex := 12, attributes := #[] }] 33 0 #[] #[])
  fields := #[]
  methods := #[k0m0, k0m1]
  instanceTypes := #[]
  staticTypes := #[]
  resolved := Array.replicate 124 none
  statics := none }

def pool1 : Array CpInfo := pool [(2, .class_ 4), (0, .nameAndType 5 6), (0, u "java/lang/Object"), (0, u "<init>"), (0, u "()V"), (0, .class_ 8), (0, u "com/example/tributary/tributary/merge/Tree"), (0, .string 10), (0, u "t"), (0, .class_ 12), (0, u "java/util/ArrayList"), (0, .methodref 11 3), (0, .methodref 7 15), (0, .nameAndType 5 16), (0, u "(Ljava/lang/String;Ljava/lang/String;Lcom/example/tributary/tributary/merge/Symbol;Ljava/lang/String;Ljava/lang/String;Ljava/util/List;Ljava/util/List;ZZLcom/example/tributary/tributary/merge/Code;IILjava/util/List;J)V"), (0, .integer 2147483647), (0, .methodref 19 20), (0, .class_ 21), (0, .nameAndType 22 23), (0, u "com/example/tributary/tributary/merge/TreeContainsPinLaw"), (0, u "node"), (0, u "(Ljava/util/ArrayList;)Lcom/example/tributary/tributary/merge/Tree;"), (0, .methodref 11 25), (0, .nameAndType 26 27), (0, u "add"), (0, u "(Ljava/lang/Object;)Z"), (0, .methodref 7 29), (0, .nameAndType 30 31), (0, u "index"), (0, u "(Lcom/example/tributary/tributary/merge/Tree;)Ljava/util/List;"), (0, .methodref 7 33), (0, .nameAndType 34 35), (0, u "contains"), (0, u "(Lcom/example/tributary/tributary/merge/Tree;)Z"), (0, .methodref 19 37), (0, .nameAndType 38 39), (0, u "anc"), (0, u "(II[I)Z"), (5, u "law"), (0, u "(IIII)Z")] 6

def k1m0 : Method := { name := "<init>", desc := "()V", sig := { parameters := [], returnType := none }, accessFlags := 2, code := none }
def k1c1 : Code := { maxStack := 17, maxLocals := 1, code := method_2_code, exceptionTable := #[], attributes := #[] }
def k1m1 : Method := { name := "node", desc := "(Ljava/util/ArrayList;)Lcom/example/tributary/tributary/merge/Tree;", sig := { parameters := [(.object "java/util/ArrayList")], returnType := some (.object "com/example/tributary/tributary/merge/Tree") }, accessFlags := 10, code := some k1c1 }
def k1c2 : Code := { maxStack := 2, maxLocals := 6, code := method_3_code, exceptionTable := #[], attributes := #[] }
def k1m2 : Method := { name := "anc", desc := "(II[I)Z", sig := { parameters := [.int, .int, (.array .int)], returnType := some .boolean }, accessFlags := 10, code := some k1c2 }
def k1c3 : Code := { maxStack := 4, maxLocals := 20, code := code, exceptionTable := #[], attributes := #[] }
def k1m3 : Method := { name := "law", desc := "(IIII)Z", sig := { parameters := [.int, .int, .int, .int], returnType := some .boolean }, accessFlags := 9, code := some k1c3 }
/-- com/example/tributary/tributary/merge/TreeContainsPinLaw -/
def k1 : Class := { plain "com/example/tributary/tributary/merge/TreeContainsPinLaw" (some 0) with
  accessFlags := 49
  interfaces := #[]
  cf := some (fileOf pool1 19 #[] #[{ accessFlags := 2, nameIndex := 5, descriptorIndex := 6, attributes := #[] }, { accessFlags := 10, nameIndex := 22, descriptorIndex := 23, attributes := #[] }, { accessFlags := 10, nameIndex := 38, descriptorIndex := 39, attributes := #[] }, { accessFlags := 9, nameIndex := 45, descriptorIndex := 46, attributes := #[] }] 49 2 #[] #[])
  fields := #[]
  methods := #[k1m0, k1m1, k1m2, k1m3]
  instanceTypes := #[]
  staticTypes := #[]
  resolved := Array.replicate 53 none
  statics := none }

def pool2 : Array CpInfo := pool [(8, .class_ 10), (1, u "java/lang/Iterable"), (24, .class_ 36), (0, u "java/lang/Object")] 25

/-- java/lang/Iterable -/
def k2 : Class := { plain "java/lang/Iterable" (some 0) with
  accessFlags := 1537
  interfaces := #[]
  cf := some (fileOf pool2 8 #[] #[] 1537 35 #[] #[])
  fields := #[]
  methods := #[]
  instanceTypes := #[]
  staticTypes := #[]
  resolved := Array.replicate 62 none
  statics := none }

def pool3 : Array CpInfo := pool [(10, .class_ 12), (1, u "java/util/Collection"), (0, u "toArray"), (16, u "()Z"), (29, .class_ 61), (0, u "java/lang/Object"), (0, .class_ 63), (0, u "java/lang/Iterable"), (2, u "isEmpty"), (3, u "()[Ljava/lang/Object;")] 44

def k3m0 : Method := { name := "isEmpty", desc := "()Z", sig := { parameters := [], returnType := some .boolean }, accessFlags := 1025, code := none }
def k3m1 : Method := { name := "toArray", desc := "()[Ljava/lang/Object;", sig := { parameters := [], returnType := some (.array (.object "java/lang/Object")) }, accessFlags := 1025, code := none }
/-- java/util/Collection -/
def k3 : Class := { plain "java/util/Collection" (some 0) with
  accessFlags := 1537
  interfaces := #[2]
  cf := some (fileOf pool3 10 #[] #[{ accessFlags := 1025, nameIndex := 66, descriptorIndex := 30, attributes := #[] }, { accessFlags := 1025, nameIndex := 13, descriptorIndex := 70, attributes := #[] }] 1537 60 #[62] #[])
  fields := #[]
  methods := #[k3m0, k3m1]
  instanceTypes := #[]
  staticTypes := #[]
  resolved := Array.replicate 115 none
  statics := none }

def pool4 : Array CpInfo := pool [(1, .methodref 2 3), (0, .class_ 4), (0, .nameAndType 5 6), (0, u "java/lang/Object"), (0, u "<init>"), (0, u "()V"), (1, .class_ 10), (1, u "java/util/AbstractCollection"), (66, .class_ 78), (0, u "java/util/Collection")] 81

def k4c0 : Code := { maxStack := 1, maxLocals := 1, code := jdk_22_method_1_code, exceptionTable := #[], attributes := #[] }
def k4m0 : Method := { name := "<init>", desc := "()V", sig := { parameters := [], returnType := none }, accessFlags := 4, code := some k4c0 }
/-- java/util/AbstractCollection -/
def k4 : Class := { plain "java/util/AbstractCollection" (some 0) with
  accessFlags := 1057
  interfaces := #[3]
  cf := some (fileOf pool4 8 #[] #[{ accessFlags := 4, nameIndex := 5, descriptorIndex := 6, attributes := #[] }] 1057 2 #[77] #[])
  fields := #[]
  methods := #[k4m0]
  instanceTypes := #[]
  staticTypes := #[]
  resolved := Array.replicate 160 none
  statics := none }

def pool5 : Array CpInfo := pool [(8, .class_ 10), (1, u "java/util/SequencedCollection"), (15, .class_ 27), (0, u "java/lang/Object"), (0, .class_ 29), (0, u "java/util/Collection")] 27

/-- java/util/SequencedCollection -/
def k5 : Class := { plain "java/util/SequencedCollection" (some 0) with
  accessFlags := 1537
  interfaces := #[3]
  cf := some (fileOf pool5 8 #[] #[] 1537 26 #[28] #[])
  fields := #[]
  methods := #[]
  instanceTypes := #[]
  staticTypes := #[]
  resolved := Array.replicate 57 none
  statics := none }

def pool6 : Array CpInfo := pool [(8, .class_ 10), (1, u "java/util/List"), (20, u "(Ljava/lang/Object;)V"), (16, u "<init>"), (26, u "get"), (0, u "(I)Ljava/lang/Object;"), (2, u "size"), (0, u "()I"), (7, u "of"), (1, .fieldref 91 92), (0, .class_ 93), (0, .nameAndType 94 95), (0, u "java/util/ImmutableCollections"), (0, u "EMPTY_LIST"), (0, u "Ljava/util/ImmutableCollections$ListN;"), (0, .class_ 97), (0, u "java/util/ImmutableCollections$List12"), (0, .methodref 96 99), (0, .nameAndType 48 31), (0, .methodref 96 101), (0, .nameAndType 48 102), (0, u "(Ljava/lang/Object;Ljava/lang/Object;)V"), (0, .class_ 104), (0, u "java/lang/Object"), (3, u "([Ljava/lang/Object;)Ljava/util/List;"), (0, .methodref 91 110), (0, .nameAndType 111 108), (0, u "listFromArray"), (0, .methodref 91 113), (0, .nameAndType 114 115), (0, u "listCopy"), (0, u "(Ljava/util/Collection;)Ljava/util/List;"), (3, u "()Ljava/util/List;"), (0, .class_ 121), (0, u "java/util/SequencedCollection"), (1, u "iterator"), (0, u "()Ljava/util/Iterator;"), (109, u "copyOf")] 16

def k6m0 : Method := { name := "size", desc := "()I", sig := { parameters := [], returnType := some .int }, accessFlags := 1025, code := none }
def k6m1 : Method := { name := "iterator", desc := "()Ljava/util/Iterator;", sig := { parameters := [], returnType := some (.object "java/util/Iterator") }, accessFlags := 1025, code := none }
def k6m2 : Method := { name := "get", desc := "(I)Ljava/lang/Object;", sig := { parameters := [.int], returnType := some (.object "java/lang/Object") }, accessFlags := 1025, code := none }
def k6c3 : Code := { maxStack := 1, maxLocals := 0, code := jdk_40_method_36_code, exceptionTable := #[], attributes := #[] }
def k6m3 : Method := { name := "of", desc := "()Ljava/util/List;", sig := { parameters := [], returnType := some (.object "java/util/List") }, accessFlags := 9, code := some k6c3 }
def k6c4 : Code := { maxStack := 5, maxLocals := 2, code := jdk_40_method_47_code, exceptionTable := #[], attributes := #[] }
def k6m4 : Method := { name := "of", desc := "([Ljava/lang/Object;)Ljava/util/List;", sig := { parameters := [(.array (.object "java/lang/Object"))], returnType := some (.object "java/util/List") }, accessFlags := 137, code := some k6c4 }
def k6c5 : Code := { maxStack := 1, maxLocals := 1, code := jdk_40_method_48_code, exceptionTable := #[], attributes := #[] }
def k6m5 : Method := { name := "copyOf", desc := "(Ljava/util/Collection;)Ljava/util/List;", sig := { parameters := [(.object "java/util/Collection")], returnType := some (.object "java/util/List") }, accessFlags := 9, code := some k6c5 }
/-- java/util/List -/
def k6 : Class := { plain "java/util/List" (some 0) with
  accessFlags := 1537
  interfaces := #[5]
  cf := some (fileOf pool6 8 #[] #[{ accessFlags := 1025, nameIndex := 79, descriptorIndex := 80, attributes := #[] }, { accessFlags := 1025, nameIndex := 123, descriptorIndex := 124, attributes := #[] }, { accessFlags := 1025, nameIndex := 75, descriptorIndex := 76, attributes := #[] }, { accessFlags := 9, nameIndex := 88, descriptorIndex := 119, attributes := #[] }, { accessFlags := 137, nameIndex := 88, descriptorIndex := 108, attributes := #[] }, { accessFlags := 9, nameIndex := 234, descriptorIndex := 115, attributes := #[] }] 1537 103 #[120] #[])
  fields := #[]
  methods := #[k6m0, k6m1, k6m2, k6m3, k6m4, k6m5]
  instanceTypes := #[]
  staticTypes := #[]
  resolved := Array.replicate 251 none
  statics := none }

def pool7 : Array CpInfo := pool [(1, .methodref 2 3), (0, .class_ 4), (0, .nameAndType 5 6), (0, u "java/util/AbstractCollection"), (0, u "<init>"), (0, u "()V"), (0, .fieldref 8 9), (0, .class_ 10), (0, .nameAndType 11 12), (0, u "java/util/AbstractList"), (0, u "modCount"), (0, u "I"), (64, .class_ 78), (0, u "java/util/AbstractList$Itr"), (3, .class_ 83), (0, u "java/util/AbstractList$ListItr"), (9, .class_ 94), (0, u "java/util/AbstractList$RandomAccessSubList"), (3, .class_ 99), (0, u "java/util/AbstractList$SubList"), (33, .class_ 134), (0, u "java/util/List"), (73, .class_ 209), (0, u "java/util/AbstractList$SubList$1"), (0, .class_ 211), (0, u "java/util/AbstractList$RandomAccessSpliterator")] 6

def k7c0 : Code := { maxStack := 2, maxLocals := 1, code := jdk_39_method_1_code, exceptionTable := #[], attributes := #[] }
def k7m0 : Method := { name := "<init>", desc := "()V", sig := { parameters := [], returnType := none }, accessFlags := 4, code := some k7c0 }
/-- java/util/AbstractList -/
def k7 : Class := { plain "java/util/AbstractList" (some 4) with
  accessFlags := 1057
  interfaces := #[6]
  cf := some (fileOf pool7 8 #[.nestMembers #[93, 98, 208, 210, 82, 77]] #[{ accessFlags := 4, nameIndex := 5, descriptorIndex := 6, attributes := #[] }] 1057 2 #[133] #[{ accessFlags := 132, nameIndex := 11, descriptorIndex := 12, attributes := #[] }])
  fields := #[{ name := "modCount", type := .int, accessFlags := 132, slot := 0, constantValue := 0 }]
  methods := #[k7m0]
  instanceTypes := #[.int]
  staticTypes := #[]
  resolved := Array.replicate 218 none
  statics := none }

def pool8 : Array CpInfo := pool [(1, .class_ 2), (0, u "java/util/RandomAccess"), (0, .class_ 4), (0, u "java/lang/Object")] 2

/-- java/util/RandomAccess -/
def k8 : Class := { plain "java/util/RandomAccess" (some 0) with
  accessFlags := 1537
  interfaces := #[]
  cf := some (fileOf pool8 1 #[] #[] 1537 3 #[] #[])
  fields := #[]
  methods := #[]
  instanceTypes := #[]
  staticTypes := #[]
  resolved := Array.replicate 7 none
  statics := none }

def pool9 : Array CpInfo := pool [(1, .class_ 2), (0, u "java/lang/Cloneable"), (0, .class_ 4), (0, u "java/lang/Object")] 2

/-- java/lang/Cloneable -/
def k9 : Class := { plain "java/lang/Cloneable" (some 0) with
  accessFlags := 1537
  interfaces := #[]
  cf := some (fileOf pool9 1 #[] #[] 1537 3 #[] #[])
  fields := #[]
  methods := #[]
  instanceTypes := #[]
  staticTypes := #[]
  resolved := Array.replicate 7 none
  statics := none }

def pool10 : Array CpInfo := pool [(1, .class_ 2), (0, u "java/io/Serializable"), (0, .class_ 4), (0, u "java/lang/Object")] 2

/-- java/io/Serializable -/
def k10 : Class := { plain "java/io/Serializable" (some 0) with
  accessFlags := 1537
  interfaces := #[]
  cf := some (fileOf pool10 1 #[] #[] 1537 3 #[] #[])
  fields := #[]
  methods := #[]
  instanceTypes := #[]
  staticTypes := #[]
  resolved := Array.replicate 7 none
  statics := none }

def pool11 : Array CpInfo := pool [(1, .methodref 2 3), (0, .class_ 4), (0, .nameAndType 5 6), (0, u "java/util/AbstractList"), (0, u "<init>"), (0, u "()V"), (0, .class_ 8), (0, u "java/lang/Object"), (0, .fieldref 10 11), (0, .class_ 12), (0, .nameAndType 13 14), (0, u "java/util/ArrayList"), (0, u "elementData"), (0, u "[Ljava/lang/Object;"), (2, u "EMPTY_ELEMENTDATA"), (21, .fieldref 10 40), (0, .nameAndType 41 14), (0, u "DEFAULTCAPACITY_EMPTY_ELEMENTDATA"), (4, u "toArray"), (0, u "()[Ljava/lang/Object;"), (0, .fieldref 10 49), (0, .nameAndType 50 51), (0, u "size"), (0, u "I"), (6, .class_ 60), (1, u "java/util/Arrays"), (0, u "copyOf"), (1, .fieldref 10 64), (0, .nameAndType 65 51), (0, u "modCount"), (0, .methodref 58 67), (0, .nameAndType 61 68), (0, u "([Ljava/lang/Object;I)[Ljava/lang/Object;"), (0, .methodref 10 70), (0, .nameAndType 71 72), (0, u "grow"), (0, u "(I)[Ljava/lang/Object;"), (6, .methodref 80 81), (0, .class_ 82), (0, .nameAndType 83 84), (0, u "java/lang/Math"), (0, u "max"), (0, u "(II)I"), (11, u "(Ljava/lang/Object;)Z"), (21, .methodref 119 120), (0, .class_ 121), (0, .nameAndType 122 84), (0, u "java/util/Objects"), (0, u "checkIndex"), (2, u "(I)Ljava/lang/Object;"), (3, .methodref 10 130), (0, .nameAndType 71 47), (0, .methodref 10 132), (0, .nameAndType 133 134), (0, u "add"), (0, u "(Ljava/lang/Object;[Ljava/lang/Object;I)V"), (3, u "(I)V"), (5, .methodref 10 145), (0, .nameAndType 146 147), (0, u "fastRemove"), (0, u "([Ljava/lang/Object;I)V"), (0, .class_ 149), (0, u "java/util/List"), (16, u "iterator"), (0, u "()Ljava/util/Iterator;"), (5, u "()Z"), (12, u "()I"), (75, .class_ 263), (0, u "java/util/ArrayList$ListItr"), (3, .class_ 268), (0, u "java/util/ArrayList$Itr"), (0, .methodref 267 270), (0, .nameAndType 5 271), (0, u "(Ljava/util/ArrayList;)V"), (4, .class_ 277), (0, u "java/util/ArrayList$SubList"), (12, .class_ 291), (0, u "java/util/ArrayList$ArrayListSpliterator"), (37, .class_ 330), (0, u "java/util/RandomAccess"), (0, .class_ 332), (0, u "java/lang/Cloneable"), (0, .class_ 334), (0, u "java/io/Serializable"), (0, u "serialVersionUID"), (0, u "J"), (3, u "DEFAULT_CAPACITY"), (22, u "isEmpty"), (35, u "remove"), (100, .class_ 501), (0, u "java/util/ArrayList$SubList$2"), (0, .class_ 503), (0, u "java/util/ArrayList$SubList$1")] 5

def k11c0 : Code := { maxStack := 4, maxLocals := 2, code := jdk_38_method_1_code, exceptionTable := #[], attributes := #[] }
def k11m0 : Method := { name := "<init>", desc := "(I)V", sig := { parameters := [.int], returnType := none }, accessFlags := 1, code := some k11c0 }
def k11c1 : Code := { maxStack := 2, maxLocals := 1, code := jdk_38_method_2_code, exceptionTable := #[], attributes := #[] }
def k11m1 : Method := { name := "<init>", desc := "()V", sig := { parameters := [], returnType := none }, accessFlags := 1, code := some k11c1 }
def k11c2 : Code := { maxStack := 4, maxLocals := 4, code := jdk_38_method_6_code, exceptionTable := #[], attributes := #[] }
def k11m2 : Method := { name := "grow", desc := "(I)[Ljava/lang/Object;", sig := { parameters := [.int], returnType := some (.array (.object "java/lang/Object")) }, accessFlags := 2, code := some k11c2 }
def k11c3 : Code := { maxStack := 3, maxLocals := 1, code := jdk_38_method_7_code, exceptionTable := #[], attributes := #[] }
def k11m3 : Method := { name := "grow", desc := "()[Ljava/lang/Object;", sig := { parameters := [], returnType := some (.array (.object "java/lang/Object")) }, accessFlags := 2, code := some k11c3 }
def k11c4 : Code := { maxStack := 1, maxLocals := 1, code := jdk_38_method_8_code, exceptionTable := #[], attributes := #[] }
def k11m4 : Method := { name := "size", desc := "()I", sig := { parameters := [], returnType := some .int }, accessFlags := 1, code := some k11c4 }
def k11c5 : Code := { maxStack := 1, maxLocals := 1, code := jdk_38_method_9_code, exceptionTable := #[], attributes := #[] }
def k11m5 : Method := { name := "isEmpty", desc := "()Z", sig := { parameters := [], returnType := some .boolean }, accessFlags := 1, code := some k11c5 }
def k11c6 : Code := { maxStack := 2, maxLocals := 1, code := jdk_38_method_16_code, exceptionTable := #[], attributes := #[] }
def k11m6 : Method := { name := "toArray", desc := "()[Ljava/lang/Object;", sig := { parameters := [], returnType := some (.array (.object "java/lang/Object")) }, accessFlags := 1, code := some k11c6 }
def k11c7 : Code := { maxStack := 3, maxLocals := 4, code := jdk_38_method_24_code, exceptionTable := #[], attributes := #[] }
def k11m7 : Method := { name := "add", desc := "(Ljava/lang/Object;[Ljava/lang/Object;I)V", sig := { parameters := [(.object "java/lang/Object"), (.array (.object "java/lang/Object")), .int], returnType := none }, accessFlags := 2, code := some k11c7 }
def k11c8 : Code := { maxStack := 4, maxLocals := 2, code := jdk_38_method_25_code, exceptionTable := #[], attributes := #[] }
def k11m8 : Method := { name := "add", desc := "(Ljava/lang/Object;)Z", sig := { parameters := [(.object "java/lang/Object")], returnType := some .boolean }, accessFlags := 1, code := some k11c8 }
def k11c9 : Code := { maxStack := 3, maxLocals := 4, code := jdk_38_method_29_code, exceptionTable := #[], attributes := #[] }
def k11m9 : Method := { name := "remove", desc := "(I)Ljava/lang/Object;", sig := { parameters := [.int], returnType := some (.object "java/lang/Object") }, accessFlags := 1, code := some k11c9 }
def k11c10 : Code := { maxStack := 6, maxLocals := 4, code := jdk_38_method_39_code, exceptionTable := #[], attributes := #[] }
def k11m10 : Method := { name := "fastRemove", desc := "([Ljava/lang/Object;I)V", sig := { parameters := [(.array (.object "java/lang/Object")), .int], returnType := none }, accessFlags := 2, code := some k11c10 }
def k11c11 : Code := { maxStack := 3, maxLocals := 1, code := jdk_38_method_55_code, exceptionTable := #[], attributes := #[] }
def k11m11 : Method := { name := "iterator", desc := "()Ljava/util/Iterator;", sig := { parameters := [], returnType := some (.object "java/util/Iterator") }, accessFlags := 1, code := some k11c11 }
/-- java/util/ArrayList -/
def k11 : Class := { plain "java/util/ArrayList" (some 7) with
  accessFlags := 33
  interfaces := #[6, 8, 9, 10]
  cf := some (fileOf pool11 10 #[.nestMembers #[290, 276, 500, 502, 262, 267]] #[{ accessFlags := 1, nameIndex := 5, descriptorIndex := 138, attributes := #[] }, { accessFlags := 1, nameIndex := 5, descriptorIndex := 6, attributes := #[] }, { accessFlags := 2, nameIndex := 71, descriptorIndex := 72, attributes := #[] }, { accessFlags := 2, nameIndex := 71, descriptorIndex := 47, attributes := #[] }, { accessFlags := 1, nameIndex := 50, descriptorIndex := 186, attributes := #[] }, { accessFlags := 1, nameIndex := 363, descriptorIndex := 173, attributes := #[] }, { accessFlags := 1, nameIndex := 46, descriptorIndex := 47, attributes := #[] }, { accessFlags := 2, nameIndex := 133, descriptorIndex := 134, attributes := #[] }, { accessFlags := 1, nameIndex := 133, descriptorIndex := 96, attributes := #[] }, { accessFlags := 1, nameIndex := 399, descriptorIndex := 125, attributes := #[] }, { accessFlags := 2, nameIndex := 146, descriptorIndex := 147, attributes := #[] }, { accessFlags := 1, nameIndex := 166, descriptorIndex := 167, attributes := #[] }] 33 2 #[148, 329, 331, 333] #[{ accessFlags := 26, nameIndex := 335, descriptorIndex := 336, attributes := #[] }, { accessFlags := 26, nameIndex := 340, descriptorIndex := 51, attributes := #[] }, { accessFlags := 26, nameIndex := 17, descriptorIndex := 14, attributes := #[] }, { accessFlags := 26, nameIndex := 41, descriptorIndex := 14, attributes := #[] }, { accessFlags := 128, nameIndex := 13, descriptorIndex := 14, attributes := #[] }, { accessFlags := 2, nameIndex := 50, descriptorIndex := 51, attributes := #[] }])
  fields := #[{ name := "serialVersionUID", type := .long, accessFlags := 26, slot := 0, constantValue := 0 }, { name := "DEFAULT_CAPACITY", type := .int, accessFlags := 26, slot := 1, constantValue := 0 }, { name := "EMPTY_ELEMENTDATA", type := (.array (.object "java/lang/Object")), accessFlags := 26, slot := 2, constantValue := 0 }, { name := "DEFAULTCAPACITY_EMPTY_ELEMENTDATA", type := (.array (.object "java/lang/Object")), accessFlags := 26, slot := 3, constantValue := 0 }, { name := "elementData", type := (.array (.object "java/lang/Object")), accessFlags := 128, slot := 1, constantValue := 0 }, { name := "size", type := .int, accessFlags := 2, slot := 2, constantValue := 0 }]
  methods := #[k11m0, k11m1, k11m2, k11m3, k11m4, k11m5, k11m6, k11m7, k11m8, k11m9, k11m10, k11m11]
  instanceTypes := #[.int, (.array (.object "java/lang/Object")), .int]
  staticTypes := #[.long, .int, (.array (.object "java/lang/Object")), (.array (.object "java/lang/Object"))]
  resolved := Array.replicate 509 none
  statics := some 0 }

def pool12 : Array CpInfo := pool [(1, .methodref 2 3), (0, .class_ 4), (0, .nameAndType 5 6), (0, u "java/lang/Object"), (0, u "<init>"), (0, u "()V"), (0, .fieldref 8 9), (0, .class_ 10), (0, .nameAndType 11 12), (0, u "com/example/tributary/tributary/merge/Tree"), (0, u "label"), (0, u "Ljava/lang/String;"), (0, .fieldref 8 14), (0, .nameAndType 15 12), (0, u "key"), (0, .fieldref 8 17), (0, .nameAndType 18 19), (0, u "defines"), (0, u "Lcom/example/tributary/tributary/merge/Symbol;"), (0, .fieldref 8 21), (0, .nameAndType 22 12), (0, u "declares"), (0, .fieldref 8 24), (0, .nameAndType 25 12), (0, u "name"), (0, .interfaceMethodref 27 28), (0, .class_ 29), (0, .nameAndType 30 31), (0, u "java/util/List"), (0, u "copyOf"), (0, u "(Ljava/util/Collection;)Ljava/util/List;"), (0, .fieldref 8 33), (0, .nameAndType 34 35), (0, u "refers"), (0, u "Ljava/util/List;"), (0, .fieldref 8 37), (0, .nameAndType 38 35), (0, u "locals"), (0, .fieldref 8 40), (0, .nameAndType 41 42), (0, u "element"), (0, u "Z"), (0, .fieldref 8 44), (0, .nameAndType 45 42), (0, u "catchesChecked"), (0, .fieldref 8 47), (0, .nameAndType 48 49), (0, u "code"), (0, u "Lcom/example/tributary/tributary/merge/Code;"), (0, .fieldref 8 51), (0, .nameAndType 52 53), (0, u "from"), (0, u "I"), (0, .fieldref 8 55), (0, .nameAndType 56 53), (0, u "to"), (0, .fieldref 8 58), (0, .nameAndType 59 35), (0, u "children"), (0, .long 14695981039346656037), (1, .methodref 8 63), (0, .nameAndType 64 65), (0, u "mix"), (0, u "(JLjava/lang/String;)J"), (0, .methodref 8 67), (0, .nameAndType 64 68), (0, u "(JJ)J"), (0, .interfaceMethodref 27 70), (0, .nameAndType 71 72), (0, u "iterator"), (0, u "()Ljava/util/Iterator;"), (0, .interfaceMethodref 74 75), (0, .class_ 76), (0, .nameAndType 77 78), (0, u "java/util/Iterator"), (0, u "hasNext"), (0, u "()Z"), (0, .interfaceMethodref 74 80), (0, .nameAndType 81 82), (0, u "next"), (0, u "()Ljava/lang/Object;"), (0, .fieldref 8 84), (0, .nameAndType 85 86), (0, u "hash"), (0, u "J"), (0, .fieldref 8 88), (0, .nameAndType 89 53), (0, u "size"), (0, .fieldref 8 91), (0, .nameAndType 92 53), (0, u "height"), (0, .methodref 94 95), (0, .class_ 96), (0, .nameAndType 97 98), (0, u "java/lang/Math"), (0, u "max"), (0, u "(II)I"), (0, .methodref 100 101), (0, .class_ 102), (0, .nameAndType 103 104), (0, u "java/lang/String"), (0, u "length"), (0, u "()I"), (0, .methodref 100 106), (0, .nameAndType 107 108), (0, u "charAt"), (0, u "(I)C"), (0, .long 1099511628211), (1, .long 255), (3, .class_ 116), (0, u "java/util/ArrayList"), (0, .methodref 115 118), (0, .nameAndType 5 119), (0, u "(I)V"), (0, .methodref 115 3), (0, .methodref 115 122), (0, .nameAndType 123 124), (0, u "add"), (0, u "(Ljava/lang/Object;)Z"), (0, .methodref 115 126), (0, .nameAndType 127 78), (0, u "isEmpty"), (0, .methodref 115 129), (0, .nameAndType 89 104), (0, .methodref 115 131), (0, .nameAndType 132 133), (0, u "remove"), (0, u "(I)Ljava/lang/Object;"), (0, .fieldref 8 135), (0, .nameAndType 136 53), (0, u "pre"), (0, .interfaceMethodref 27 129), (0, .interfaceMethodref 27 139), (0, .nameAndType 140 133), (0, u "get"), (0, .fieldref 8 142), (0, .nameAndType 143 144), (0, u "parent"), (0, u "Lcom/example/tributary/tributary/merge/Tree;"), (42, u "FNV_OFFSET"), (1, u "FNV_PRIME"), (4, u "(Ljava/lang/String;Ljava/lang/String;Lcom/example/tributary/tributary/merge/Symbol;Ljava/lang/String;Ljava/lang/String;Ljava/util/List;Ljava/util/List;ZZLcom/example/tributary/tributary/merge/Code;IILjava/util/List;J)V"), (8, u "index"), (0, u "(Lcom/example/tributary/tributary/merge/Tree;)Ljava/util/List;"), (12, u "contains"), (0, u "(Lcom/example/tributary/tributary/merge/Tree;)Z")] 21

def k12c0 : Code := { maxStack := 4, maxLocals := 22, code := prog_45_method_1_code, exceptionTable := #[], attributes := #[] }
def k12m0 : Method := { name := "<init>", desc := "(Ljava/lang/String;Ljava/lang/String;Lcom/example/tributary/tributary/merge/Symbol;Ljava/lang/String;Ljava/lang/String;Ljava/util/List;Ljava/util/List;ZZLcom/example/tributary/tributary/merge/Code;IILjava/util/List;J)V", sig := { parameters := [(.object "java/lang/String"), (.object "java/lang/String"), (.object "com/example/tributary/tributary/merge/Symbol"), (.object "java/lang/String"), (.object "java/lang/String"), (.object "java/util/List"), (.object "java/util/List"), .boolean, .boolean, (.object "com/example/tributary/tributary/merge/Code"), .int, .int, (.object "java/util/List"), .long], returnType := none }, accessFlags := 0, code := some k12c0 }
def k12c1 : Code := { maxStack := 4, maxLocals := 6, code := prog_45_method_2_code, exceptionTable := #[], attributes := #[] }
def k12m1 : Method := { name := "mix", desc := "(JLjava/lang/String;)J", sig := { parameters := [.long, (.object "java/lang/String")], returnType := some .long }, accessFlags := 8, code := some k12c1 }
def k12c2 : Code := { maxStack := 6, maxLocals := 7, code := prog_45_method_4_code, exceptionTable := #[], attributes := #[] }
def k12m2 : Method := { name := "mix", desc := "(JJ)J", sig := { parameters := [.long, .long], returnType := some .long }, accessFlags := 10, code := some k12c2 }
def k12c3 : Code := { maxStack := 3, maxLocals := 5, code := prog_45_method_5_code, exceptionTable := #[], attributes := #[] }
def k12m3 : Method := { name := "index", desc := "(Lcom/example/tributary/tributary/merge/Tree;)Ljava/util/List;", sig := { parameters := [(.object "com/example/tributary/tributary/merge/Tree")], returnType := some (.object "java/util/List") }, accessFlags := 8, code := some k12c3 }
def k12c4 : Code := { maxStack := 3, maxLocals := 2, code := prog_45_method_26_code, exceptionTable := #[], attributes := #[] }
def k12m4 : Method := { name := "contains", desc := "(Lcom/example/tributary/tributary/merge/Tree;)Z", sig := { parameters := [(.object "com/example/tributary/tributary/merge/Tree")], returnType := some .boolean }, accessFlags := 0, code := some k12c4 }
/-- com/example/tributary/tributary/merge/Tree -/
def k12 : Class := { plain "com/example/tributary/tributary/merge/Tree" (some 0) with
  accessFlags := 48
  interfaces := #[]
  cf := some (fileOf pool12 8 #[] #[{ accessFlags := 0, nameIndex := 5, descriptorIndex := 194, attributes := #[] }, { accessFlags := 8, nameIndex := 64, descriptorIndex := 65, attributes := #[] }, { accessFlags := 10, nameIndex := 64, descriptorIndex := 68, attributes := #[] }, { accessFlags := 8, nameIndex := 203, descriptorIndex := 204, attributes := #[] }, { accessFlags := 0, nameIndex := 217, descriptorIndex := 218, attributes := #[] }] 48 2 #[] #[{ accessFlags := 26, nameIndex := 187, descriptorIndex := 86, attributes := #[] }, { accessFlags := 26, nameIndex := 189, descriptorIndex := 86, attributes := #[] }, { accessFlags := 18, nameIndex := 11, descriptorIndex := 12, attributes := #[] }, { accessFlags := 18, nameIndex := 15, descriptorIndex := 12, attributes := #[] }, { accessFlags := 18, nameIndex := 18, descriptorIndex := 19, attributes := #[] }, { accessFlags := 18, nameIndex := 22, descriptorIndex := 12, attributes := #[] }, { accessFlags := 18, nameIndex := 25, descriptorIndex := 12, attributes := #[] }, { accessFlags := 18, nameIndex := 34, descriptorIndex := 35, attributes := #[] }, { accessFlags := 18, nameIndex := 38, descriptorIndex := 35, attributes := #[] }, { accessFlags := 18, nameIndex := 41, descriptorIndex := 42, attributes := #[] }, { accessFlags := 18, nameIndex := 45, descriptorIndex := 42, attributes := #[] }, { accessFlags := 18, nameIndex := 48, descriptorIndex := 49, attributes := #[] }, { accessFlags := 18, nameIndex := 52, descriptorIndex := 53, attributes := #[] }, { accessFlags := 18, nameIndex := 56, descriptorIndex := 53, attributes := #[] }, { accessFlags := 18, nameIndex := 59, descriptorIndex := 35, attributes := #[] }, { accessFlags := 18, nameIndex := 85, descriptorIndex := 86, attributes := #[] }, { accessFlags := 18, nameIndex := 89, descriptorIndex := 53, attributes := #[] }, { accessFlags := 18, nameIndex := 92, descriptorIndex := 53, attributes := #[] }, { accessFlags := 2, nameIndex := 143, descriptorIndex := 144, attributes := #[] }, { accessFlags := 2, nameIndex := 136, descriptorIndex := 53, attributes := #[] }])
  fields := #[{ name := "FNV_OFFSET", type := .long, accessFlags := 26, slot := 0, constantValue := 0 }, { name := "FNV_PRIME", type := .long, accessFlags := 26, slot := 1, constantValue := 0 }, { name := "label", type := (.object "java/lang/String"), accessFlags := 18, slot := 0, constantValue := 0 }, { name := "key", type := (.object "java/lang/String"), accessFlags := 18, slot := 1, constantValue := 0 }, { name := "defines", type := (.object "com/example/tributary/tributary/merge/Symbol"), accessFlags := 18, slot := 2, constantValue := 0 }, { name := "declares", type := (.object "java/lang/String"), accessFlags := 18, slot := 3, constantValue := 0 }, { name := "name", type := (.object "java/lang/String"), accessFlags := 18, slot := 4, constantValue := 0 }, { name := "refers", type := (.object "java/util/List"), accessFlags := 18, slot := 5, constantValue := 0 }, { name := "locals", type := (.object "java/util/List"), accessFlags := 18, slot := 6, constantValue := 0 }, { name := "element", type := .boolean, accessFlags := 18, slot := 7, constantValue := 0 }, { name := "catchesChecked", type := .boolean, accessFlags := 18, slot := 8, constantValue := 0 }, { name := "code", type := (.object "com/example/tributary/tributary/merge/Code"), accessFlags := 18, slot := 9, constantValue := 0 }, { name := "from", type := .int, accessFlags := 18, slot := 10, constantValue := 0 }, { name := "to", type := .int, accessFlags := 18, slot := 11, constantValue := 0 }, { name := "children", type := (.object "java/util/List"), accessFlags := 18, slot := 12, constantValue := 0 }, { name := "hash", type := .long, accessFlags := 18, slot := 13, constantValue := 0 }, { name := "size", type := .int, accessFlags := 18, slot := 14, constantValue := 0 }, { name := "height", type := .int, accessFlags := 18, slot := 15, constantValue := 0 }, { name := "parent", type := (.object "com/example/tributary/tributary/merge/Tree"), accessFlags := 2, slot := 16, constantValue := 0 }, { name := "pre", type := .int, accessFlags := 2, slot := 17, constantValue := 0 }]
  methods := #[k12m0, k12m1, k12m2, k12m3, k12m4]
  instanceTypes := #[(.object "java/lang/String"), (.object "java/lang/String"), (.object "com/example/tributary/tributary/merge/Symbol"), (.object "java/lang/String"), (.object "java/lang/String"), (.object "java/util/List"), (.object "java/util/List"), .boolean, .boolean, (.object "com/example/tributary/tributary/merge/Code"), .int, .int, (.object "java/util/List"), .long, .int, .int, (.object "com/example/tributary/tributary/merge/Tree"), .int]
  staticTypes := #[.long, .long]
  resolved := Array.replicate 240 none
  statics := none }

def pool13 : Array CpInfo := pool [(1, .class_ 2), (0, u "java/lang/Comparable"), (0, .class_ 4), (0, u "java/lang/Object")] 7

/-- java/lang/Comparable -/
def k13 : Class := { plain "java/lang/Comparable" (some 0) with
  accessFlags := 1537
  interfaces := #[]
  cf := some (fileOf pool13 1 #[] #[] 1537 3 #[] #[])
  fields := #[]
  methods := #[]
  instanceTypes := #[]
  staticTypes := #[]
  resolved := Array.replicate 12 none
  statics := none }

def pool14 : Array CpInfo := pool [(2, .class_ 4), (1, u "java/lang/CharSequence"), (42, .class_ 48), (0, u "java/lang/CharSequence$1CodePointIterator"), (10, .class_ 60), (0, u "java/lang/CharSequence$1CharIterator"), (5, .class_ 67), (0, u "java/lang/Object")] 63

/-- java/lang/CharSequence -/
def k14 : Class := { plain "java/lang/CharSequence" (some 0) with
  accessFlags := 1537
  interfaces := #[]
  cf := some (fileOf pool14 2 #[.nestMembers #[47, 59]] #[] 1537 66 #[] #[])
  fields := #[]
  methods := #[]
  instanceTypes := #[]
  staticTypes := #[]
  resolved := Array.replicate 131 none
  statics := none }

def pool15 : Array CpInfo := pool [(1, .class_ 2), (0, u "java/lang/constant/Constable"), (0, .class_ 4), (0, u "java/lang/Object")] 6

/-- java/lang/constant/Constable -/
def k15 : Class := { plain "java/lang/constant/Constable" (some 0) with
  accessFlags := 1537
  interfaces := #[]
  cf := some (fileOf pool15 1 #[] #[] 1537 3 #[] #[])
  fields := #[]
  methods := #[]
  instanceTypes := #[]
  staticTypes := #[]
  resolved := Array.replicate 11 none
  statics := none }

def pool16 : Array CpInfo := pool [(1, .class_ 2), (0, u "java/lang/constant/ConstantDesc"), (0, .class_ 4), (0, u "java/lang/Object")] 32

/-- java/lang/constant/ConstantDesc -/
def k16 : Class := { plain "java/lang/constant/ConstantDesc" (some 0) with
  accessFlags := 1537
  interfaces := #[]
  cf := some (fileOf pool16 1 #[] #[] 1537 3 #[] #[])
  fields := #[]
  methods := #[]
  instanceTypes := #[]
  staticTypes := #[]
  resolved := Array.replicate 37 none
  statics := none }

def pool17 : Array CpInfo := pool [(2, .class_ 4), (1, u "java/lang/Object"), (0, u "<init>"), (0, u "()V"), (2, .fieldref 10 11), (0, .class_ 12), (0, .nameAndType 13 14), (0, u "java/lang/String"), (0, u "value"), (0, u "[B"), (0, .fieldref 10 16), (0, .nameAndType 17 18), (0, u "coder"), (0, u "B"), (2, u "hash"), (0, u "I"), (2, u "hashIsZero"), (0, u "Z"), (11, .fieldref 10 39), (0, .nameAndType 40 26), (0, u "COMPACT_STRINGS"), (66, .class_ 109), (1, u "java/lang/StringLatin1"), (32, u "()Z"), (191, u "()I"), (0, .methodref 10 336), (0, .nameAndType 17 337), (0, u "()B"), (25, u "([BI)C"), (27, u "(II)V"), (35, u "(I)C"), (64, .methodref 10 493), (0, .nameAndType 494 142), (0, u "isLatin1"), (0, .methodref 107 496), (0, .nameAndType 497 363), (0, u "charAt"), (3, u "checkIndex"), (5, u "length"), (67, .class_ 576), (0, u "java/lang/CharSequence"), (22, u "CASE_INSENSITIVE_ORDER"), (0, u "Ljava/util/Comparator;"), (452, .fieldref 1054 1055), (0, .class_ 1056), (0, .nameAndType 1057 1058), (0, u "jdk/internal/util/Preconditions"), (0, u "SIOOBE_FORMATTER"), (0, u "Ljava/util/function/BiFunction;"), (0, .methodref 1054 1060), (0, .nameAndType 501 1061), (0, u "(IILjava/util/function/BiFunction;)I"), (39, u "serialPersistentFields"), (0, u "[Ljava/io/ObjectStreamField;"), (0, .class_ 1104), (0, u "java/lang/String$CaseInsensitiveComparator"), (1, .class_ 1107), (0, u "java/io/Serializable"), (0, .class_ 1109), (0, u "java/lang/Comparable"), (0, .class_ 1111), (0, u "java/lang/constant/Constable"), (0, .class_ 1113), (0, u "java/lang/constant/ConstantDesc"), (2, u "serialVersionUID"), (0, u "J"), (3, u "REPL"), (0, u "C"), (2, u "LATIN1"), (1, u "UTF16")] 323

def k17m0 : Method := { name := "<init>", desc := "()V", sig := { parameters := [], returnType := none }, accessFlags := 1, code := none }
def k17c1 : Code := { maxStack := 2, maxLocals := 1, code := jdk_42_method_54_code, exceptionTable := #[], attributes := #[] }
def k17m1 : Method := { name := "length", desc := "()I", sig := { parameters := [], returnType := some .int }, accessFlags := 1, code := some k17c1 }
def k17c2 : Code := { maxStack := 2, maxLocals := 2, code := jdk_42_method_56_code, exceptionTable := #[], attributes := #[] }
def k17m2 : Method := { name := "charAt", desc := "(I)C", sig := { parameters := [.int], returnType := some .char }, accessFlags := 1, code := some k17c2 }
def k17c3 : Code := { maxStack := 1, maxLocals := 1, code := jdk_42_method_152_code, exceptionTable := #[], attributes := #[] }
def k17m3 : Method := { name := "coder", desc := "()B", sig := { parameters := [], returnType := some .byte }, accessFlags := 0, code := some k17c3 }
def k17c4 : Code := { maxStack := 1, maxLocals := 1, code := jdk_42_method_154_code, exceptionTable := #[], attributes := #[] }
def k17m4 : Method := { name := "isLatin1", desc := "()Z", sig := { parameters := [], returnType := some .boolean }, accessFlags := 0, code := some k17c4 }
def k17c5 : Code := { maxStack := 3, maxLocals := 2, code := jdk_42_method_155_code, exceptionTable := #[], attributes := #[] }
def k17m5 : Method := { name := "checkIndex", desc := "(II)V", sig := { parameters := [.int, .int], returnType := none }, accessFlags := 8, code := some k17c5 }
/-- java/lang/String -/
def k17 : Class := { plain "java/lang/String" (some 0) with
  accessFlags := 49
  interfaces := #[10, 13, 14, 15, 16]
  cf := some (fileOf pool17 10 #[.nestMembers #[1103]] #[{ accessFlags := 1, nameIndex := 5, descriptorIndex := 6, attributes := #[] }, { accessFlags := 1, nameIndex := 507, descriptorIndex := 334, attributes := #[] }, { accessFlags := 1, nameIndex := 497, descriptorIndex := 427, attributes := #[] }, { accessFlags := 0, nameIndex := 17, descriptorIndex := 337, attributes := #[] }, { accessFlags := 0, nameIndex := 494, descriptorIndex := 142, attributes := #[] }, { accessFlags := 8, nameIndex := 501, descriptorIndex := 391, attributes := #[] }] 49 2 #[1106, 1108, 575, 1110, 1112] #[{ accessFlags := 18, nameIndex := 13, descriptorIndex := 14, attributes := #[] }, { accessFlags := 18, nameIndex := 17, descriptorIndex := 18, attributes := #[] }, { accessFlags := 2, nameIndex := 21, descriptorIndex := 22, attributes := #[] }, { accessFlags := 2, nameIndex := 25, descriptorIndex := 26, attributes := #[] }, { accessFlags := 26, nameIndex := 1116, descriptorIndex := 1117, attributes := #[] }, { accessFlags := 24, nameIndex := 40, descriptorIndex := 26, attributes := #[] }, { accessFlags := 26, nameIndex := 1101, descriptorIndex := 1102, attributes := #[] }, { accessFlags := 26, nameIndex := 1121, descriptorIndex := 1122, attributes := #[] }, { accessFlags := 25, nameIndex := 599, descriptorIndex := 600, attributes := #[] }, { accessFlags := 24, nameIndex := 1125, descriptorIndex := 18, attributes := #[] }, { accessFlags := 24, nameIndex := 1127, descriptorIndex := 18, attributes := #[] }])
  fields := #[{ name := "value", type := (.array .byte), accessFlags := 18, slot := 0, constantValue := 0 }, { name := "coder", type := .byte, accessFlags := 18, slot := 1, constantValue := 0 }, { name := "hash", type := .int, accessFlags := 2, slot := 2, constantValue := 0 }, { name := "hashIsZero", type := .boolean, accessFlags := 2, slot := 3, constantValue := 0 }, { name := "serialVersionUID", type := .long, accessFlags := 26, slot := 0, constantValue := 0 }, { name := "COMPACT_STRINGS", type := .boolean, accessFlags := 24, slot := 1, constantValue := 0 }, { name := "serialPersistentFields", type := (.array (.object "java/io/ObjectStreamField")), accessFlags := 26, slot := 2, constantValue := 0 }, { name := "REPL", type := .char, accessFlags := 26, slot := 3, constantValue := 0 }, { name := "CASE_INSENSITIVE_ORDER", type := (.object "java/util/Comparator"), accessFlags := 25, slot := 4, constantValue := 0 }, { name := "LATIN1", type := .byte, accessFlags := 24, slot := 5, constantValue := 0 }, { name := "UTF16", type := .byte, accessFlags := 24, slot := 6, constantValue := 0 }]
  methods := #[k17m0, k17m1, k17m2, k17m3, k17m4, k17m5]
  instanceTypes := #[(.array .byte), .byte, .int, .boolean]
  staticTypes := #[.long, .boolean, (.array (.object "java/io/ObjectStreamField")), .char, (.object "java/util/Comparator"), .byte, .byte]
  resolved := Array.replicate 1451 none
  statics := some 1 }

def pool18 : Array CpInfo := pool [(2, .class_ 4), (1, u "java/lang/Object"), (0, u "<init>"), (0, u "()V"), (3, .class_ 11), (0, u "java/util/ImmutableCollections$List12"), (0, .class_ 13), (0, u "java/util/ImmutableCollections$ListN"), (3, u "Z"), (0, .class_ 19), (0, u "java/util/List"), (0, .interfaceMethodref 21 22), (0, .class_ 23), (0, .nameAndType 24 25), (0, u "java/util/Collection"), (0, u "isEmpty"), (0, u "()Z"), (0, .interfaceMethodref 18 27), (0, .nameAndType 28 29), (0, u "of"), (0, u "()Ljava/util/List;"), (0, .interfaceMethodref 21 31), (0, .nameAndType 32 33), (0, u "toArray"), (0, u "()[Ljava/lang/Object;"), (0, .interfaceMethodref 18 35), (0, .nameAndType 28 36), (0, u "([Ljava/lang/Object;)Ljava/util/List;"), (0, .methodref 38 39), (0, .class_ 40), (0, .nameAndType 41 42), (0, u "java/util/Objects"), (0, u "requireNonNull"), (0, u "(Ljava/lang/Object;)Ljava/lang/Object;"), (0, .methodref 12 44), (0, .nameAndType 5 45), (0, u "([Ljava/lang/Object;Z)V"), (1, .class_ 49), (1, u "java/util/ImmutableCollections"), (0, u "$assertionsDisabled"), (5, u "[Ljava/lang/Object;"), (5, u "EMPTY_LIST"), (0, u "Ljava/util/ImmutableCollections$ListN;"), (8, u "EMPTY_LIST_NULLS"), (22, u "SALT32L"), (0, u "J"), (2, u "REVERSE"), (6, u "archivedObjects"), (2, u "EMPTY"), (0, u "Ljava/lang/Object;"), (0, .class_ 112), (0, u "java/util/ImmutableCollections$SetN"), (5, u "EMPTY_SET"), (0, u "Ljava/util/ImmutableCollections$SetN;"), (0, .class_ 121), (0, u "java/util/ImmutableCollections$MapN"), (3, u "EMPTY_MAP"), (0, u "Ljava/util/ImmutableCollections$MapN;"), (4, u "EXPAND_FACTOR"), (0, u "I"), (9, u "listCopy"), (0, u "(Ljava/util/Collection;)Ljava/util/List;"), (7, u "listFromArray"), (17, .class_ 170), (0, u "java/util/ImmutableCollections$MapN$MapNIterator"), (0, .class_ 172), (0, u "java/util/ImmutableCollections$MapN$1"), (0, .class_ 174), (0, u "java/util/ImmutableCollections$Map1"), (0, .class_ 176), (0, u "java/util/ImmutableCollections$AbstractImmutableMap"), (0, .class_ 178), (0, u "java/util/ImmutableCollections$SetN$SetNIterator"), (0, .class_ 180), (0, u "java/util/ImmutableCollections$Set12"), (0, .class_ 182), (0, u "java/util/ImmutableCollections$Set12$1"), (0, .class_ 184), (0, u "java/util/ImmutableCollections$AbstractImmutableSet"), (0, .class_ 186), (0, u "java/util/ImmutableCollections$SubList"), (0, .class_ 188), (0, u "java/util/ImmutableCollections$ListItr"), (0, .class_ 190), (0, u "java/util/ImmutableCollections$AbstractImmutableList"), (0, .class_ 192), (0, u "java/util/ImmutableCollections$AbstractImmutableCollection"), (0, .class_ 194), (0, u "java/util/ImmutableCollections$Access"), (0, .class_ 196), (0, u "java/util/ImmutableCollections$Access$1")] 16

def k18m0 : Method := { name := "<init>", desc := "()V", sig := { parameters := [], returnType := none }, accessFlags := 2, code := none }
def k18c1 : Code := { maxStack := 1, maxLocals := 2, code := jdk_56_method_3_code, exceptionTable := #[], attributes := #[] }
def k18m1 : Method := { name := "listCopy", desc := "(Ljava/util/Collection;)Ljava/util/List;", sig := { parameters := [(.object "java/util/Collection")], returnType := some (.object "java/util/List") }, accessFlags := 8, code := some k18c1 }
def k18c2 : Code := { maxStack := 4, maxLocals := 3, code := jdk_56_method_4_code, exceptionTable := #[], attributes := #[] }
def k18m2 : Method := { name := "listFromArray", desc := "([Ljava/lang/Object;)Ljava/util/List;", sig := { parameters := [(.array (.object "java/lang/Object"))], returnType := some (.object "java/util/List") }, accessFlags := 136, code := some k18c2 }
/-- java/util/ImmutableCollections -/
def k18 : Class := { plain "java/util/ImmutableCollections" (some 0) with
  accessFlags := 32
  interfaces := #[]
  cf := some (fileOf pool18 47 #[.nestMembers #[120, 169, 171, 173, 175, 111, 177, 179, 181, 183, 12, 10, 185, 187, 189, 191, 193, 195]] #[{ accessFlags := 2, nameIndex := 5, descriptorIndex := 6, attributes := #[] }, { accessFlags := 8, nameIndex := 142, descriptorIndex := 143, attributes := #[] }, { accessFlags := 136, nameIndex := 151, descriptorIndex := 36, attributes := #[] }] 32 2 #[] #[{ accessFlags := 26, nameIndex := 95, descriptorIndex := 96, attributes := #[] }, { accessFlags := 26, nameIndex := 99, descriptorIndex := 17, attributes := #[] }, { accessFlags := 10, nameIndex := 106, descriptorIndex := 56, attributes := #[] }, { accessFlags := 26, nameIndex := 109, descriptorIndex := 110, attributes := #[] }, { accessFlags := 24, nameIndex := 62, descriptorIndex := 63, attributes := #[] }, { accessFlags := 24, nameIndex := 72, descriptorIndex := 63, attributes := #[] }, { accessFlags := 24, nameIndex := 118, descriptorIndex := 119, attributes := #[] }, { accessFlags := 24, nameIndex := 125, descriptorIndex := 126, attributes := #[] }, { accessFlags := 24, nameIndex := 131, descriptorIndex := 132, attributes := #[] }, { accessFlags := 4120, nameIndex := 50, descriptorIndex := 17, attributes := #[] }])
  fields := #[{ name := "SALT32L", type := .long, accessFlags := 26, slot := 0, constantValue := 0 }, { name := "REVERSE", type := .boolean, accessFlags := 26, slot := 1, constantValue := 0 }, { name := "archivedObjects", type := (.array (.object "java/lang/Object")), accessFlags := 10, slot := 2, constantValue := 0 }, { name := "EMPTY", type := (.object "java/lang/Object"), accessFlags := 26, slot := 3, constantValue := 0 }, { name := "EMPTY_LIST", type := (.object "java/util/ImmutableCollections$ListN"), accessFlags := 24, slot := 4, constantValue := 0 }, { name := "EMPTY_LIST_NULLS", type := (.object "java/util/ImmutableCollections$ListN"), accessFlags := 24, slot := 5, constantValue := 0 }, { name := "EMPTY_SET", type := (.object "java/util/ImmutableCollections$SetN"), accessFlags := 24, slot := 6, constantValue := 0 }, { name := "EMPTY_MAP", type := (.object "java/util/ImmutableCollections$MapN"), accessFlags := 24, slot := 7, constantValue := 0 }, { name := "EXPAND_FACTOR", type := .int, accessFlags := 24, slot := 8, constantValue := 0 }, { name := "$assertionsDisabled", type := .boolean, accessFlags := 4120, slot := 9, constantValue := 0 }]
  methods := #[k18m0, k18m1, k18m2]
  instanceTypes := #[]
  staticTypes := #[.long, .boolean, (.array (.object "java/lang/Object")), (.object "java/lang/Object"), (.object "java/util/ImmutableCollections$ListN"), (.object "java/util/ImmutableCollections$ListN"), (.object "java/util/ImmutableCollections$SetN"), (.object "java/util/ImmutableCollections$MapN"), .int, .boolean]
  resolved := Array.replicate 213 none
  statics := some 2 }

def pool19 : Array CpInfo := pool [(1, .methodref 2 3), (0, .class_ 4), (0, .nameAndType 5 6), (0, u "java/util/AbstractCollection"), (0, u "<init>"), (0, u "()V"), (1, .class_ 10), (1, u "java/util/ImmutableCollections"), (2, .class_ 14), (0, u "java/util/ImmutableCollections$AbstractImmutableCollection")] 41

def k19c0 : Code := { maxStack := 1, maxLocals := 1, code := jdk_47_method_1_code, exceptionTable := #[], attributes := #[] }
def k19m0 : Method := { name := "<init>", desc := "()V", sig := { parameters := [], returnType := none }, accessFlags := 0, code := some k19c0 }
/-- java/util/ImmutableCollections$AbstractImmutableCollection -/
def k19 : Class := { plain "java/util/ImmutableCollections$AbstractImmutableCollection" (some 4) with
  accessFlags := 1056
  interfaces := #[]
  cf := some (fileOf pool19 13 #[.nestHost 8] #[{ accessFlags := 0, nameIndex := 5, descriptorIndex := 6, attributes := #[] }] 1056 2 #[] #[])
  fields := #[]
  methods := #[k19m0]
  instanceTypes := #[]
  staticTypes := #[]
  resolved := Array.replicate 56 none
  statics := none }

def pool20 : Array CpInfo := pool [(1, .methodref 2 3), (0, .class_ 4), (0, .nameAndType 5 6), (0, u "java/util/ImmutableCollections$AbstractImmutableCollection"), (0, u "<init>"), (0, u "()V"), (1, .class_ 10), (1, u "java/util/ImmutableCollections"), (3, .class_ 16), (1, u "java/util/ImmutableCollections$AbstractImmutableList"), (60, .class_ 78), (0, u "java/util/List"), (45, .class_ 125), (0, u "java/util/RandomAccess")] 70

def k20c0 : Code := { maxStack := 1, maxLocals := 1, code := jdk_46_method_1_code, exceptionTable := #[], attributes := #[] }
def k20m0 : Method := { name := "<init>", desc := "()V", sig := { parameters := [], returnType := none }, accessFlags := 0, code := some k20c0 }
/-- java/util/ImmutableCollections$AbstractImmutableList -/
def k20 : Class := { plain "java/util/ImmutableCollections$AbstractImmutableList" (some 19) with
  accessFlags := 1056
  interfaces := #[6, 8]
  cf := some (fileOf pool20 14 #[.nestHost 8] #[{ accessFlags := 0, nameIndex := 5, descriptorIndex := 6, attributes := #[] }] 1056 2 #[77, 124] #[])
  fields := #[]
  methods := #[k20m0]
  instanceTypes := #[]
  staticTypes := #[]
  resolved := Array.replicate 196 none
  statics := none }

def pool21 : Array CpInfo := pool [(1, .methodref 2 3), (0, .class_ 4), (0, .nameAndType 5 6), (0, u "java/util/ImmutableCollections$AbstractImmutableList"), (0, u "<init>"), (0, u "()V"), (0, .methodref 8 9), (0, .class_ 10), (0, .nameAndType 11 12), (0, u "java/util/Objects"), (0, u "requireNonNull"), (0, u "(Ljava/lang/Object;)Ljava/lang/Object;"), (0, .fieldref 14 15), (0, .class_ 16), (0, .nameAndType 17 18), (0, u "java/util/ImmutableCollections$List12"), (0, u "e0"), (0, u "Ljava/lang/Object;"), (0, .fieldref 20 21), (0, .class_ 22), (0, .nameAndType 23 18), (0, u "java/util/ImmutableCollections"), (0, u "EMPTY"), (0, .fieldref 14 25), (0, .nameAndType 26 18), (0, u "e1"), (24, u "size"), (0, u "()I"), (17, .class_ 71), (0, u "java/io/Serializable"), (4, u "(Ljava/lang/Object;)V"), (8, u "(Ljava/lang/Object;Ljava/lang/Object;)V"), (4, u "get"), (0, u "(I)Ljava/lang/Object;")] 33

def k21c0 : Code := { maxStack := 2, maxLocals := 2, code := jdk_44_method_1_code, exceptionTable := #[], attributes := #[] }
def k21m0 : Method := { name := "<init>", desc := "(Ljava/lang/Object;)V", sig := { parameters := [(.object "java/lang/Object")], returnType := none }, accessFlags := 0, code := some k21c0 }
def k21c1 : Code := { maxStack := 2, maxLocals := 3, code := jdk_44_method_2_code, exceptionTable := #[], attributes := #[] }
def k21m1 : Method := { name := "<init>", desc := "(Ljava/lang/Object;Ljava/lang/Object;)V", sig := { parameters := [(.object "java/lang/Object"), (.object "java/lang/Object")], returnType := none }, accessFlags := 0, code := some k21c1 }
def k21c2 : Code := { maxStack := 2, maxLocals := 1, code := jdk_44_method_3_code, exceptionTable := #[], attributes := #[] }
def k21m2 : Method := { name := "size", desc := "()I", sig := { parameters := [], returnType := some .int }, accessFlags := 1, code := some k21c2 }
def k21c3 : Code := { maxStack := 2, maxLocals := 2, code := jdk_44_method_5_code, exceptionTable := #[], attributes := #[] }
def k21m3 : Method := { name := "get", desc := "(I)Ljava/lang/Object;", sig := { parameters := [.int], returnType := some (.object "java/lang/Object") }, accessFlags := 1, code := some k21c3 }
/-- java/util/ImmutableCollections$List12 -/
def k21 : Class := { plain "java/util/ImmutableCollections$List12" (some 20) with
  accessFlags := 48
  interfaces := #[10]
  cf := some (fileOf pool21 14 #[.nestHost 20] #[{ accessFlags := 0, nameIndex := 5, descriptorIndex := 76, attributes := #[] }, { accessFlags := 0, nameIndex := 5, descriptorIndex := 85, attributes := #[] }, { accessFlags := 1, nameIndex := 51, descriptorIndex := 52, attributes := #[] }, { accessFlags := 1, nameIndex := 90, descriptorIndex := 91, attributes := #[] }] 48 2 #[70] #[{ accessFlags := 18, nameIndex := 17, descriptorIndex := 18, attributes := #[] }, { accessFlags := 18, nameIndex := 26, descriptorIndex := 18, attributes := #[] }])
  fields := #[{ name := "e0", type := (.object "java/lang/Object"), accessFlags := 18, slot := 0, constantValue := 0 }, { name := "e1", type := (.object "java/lang/Object"), accessFlags := 18, slot := 1, constantValue := 0 }]
  methods := #[k21m0, k21m1, k21m2, k21m3]
  instanceTypes := #[(.object "java/lang/Object"), (.object "java/lang/Object")]
  staticTypes := #[]
  resolved := Array.replicate 125 none
  statics := none }

def pool22 : Array CpInfo := pool [(1, .methodref 2 3), (0, .class_ 4), (0, .nameAndType 5 6), (0, u "java/util/ImmutableCollections$AbstractImmutableList"), (0, u "<init>"), (0, u "()V"), (0, .fieldref 8 9), (0, .class_ 10), (0, .nameAndType 11 12), (0, u "java/util/ImmutableCollections$ListN"), (0, u "elements"), (0, u "[Ljava/lang/Object;"), (0, .fieldref 8 14), (0, .nameAndType 15 16), (0, u "allowNulls"), (0, u "Z"), (42, .class_ 60), (0, u "java/io/Serializable"), (4, u "([Ljava/lang/Object;Z)V"), (11, u "size"), (0, u "()I"), (0, u "get"), (0, u "(I)Ljava/lang/Object;"), (33, .class_ 115), (0, u "java/util/ImmutableCollections")] 3

def k22c0 : Code := { maxStack := 2, maxLocals := 3, code := jdk_45_method_1_code, exceptionTable := #[], attributes := #[] }
def k22m0 : Method := { name := "<init>", desc := "([Ljava/lang/Object;Z)V", sig := { parameters := [(.array (.object "java/lang/Object")), .boolean], returnType := none }, accessFlags := 2, code := some k22c0 }
def k22c1 : Code := { maxStack := 1, maxLocals := 1, code := jdk_45_method_3_code, exceptionTable := #[], attributes := #[] }
def k22m1 : Method := { name := "size", desc := "()I", sig := { parameters := [], returnType := some .int }, accessFlags := 1, code := some k22c1 }
def k22c2 : Code := { maxStack := 2, maxLocals := 2, code := jdk_45_method_4_code, exceptionTable := #[], attributes := #[] }
def k22m2 : Method := { name := "get", desc := "(I)Ljava/lang/Object;", sig := { parameters := [.int], returnType := some (.object "java/lang/Object") }, accessFlags := 1, code := some k22c2 }
/-- java/util/ImmutableCollections$ListN -/
def k22 : Class := { plain "java/util/ImmutableCollections$ListN" (some 20) with
  accessFlags := 48
  interfaces := #[10]
  cf := some (fileOf pool22 8 #[.nestHost 114] #[{ accessFlags := 2, nameIndex := 5, descriptorIndex := 65, attributes := #[] }, { accessFlags := 1, nameIndex := 77, descriptorIndex := 78, attributes := #[] }, { accessFlags := 1, nameIndex := 79, descriptorIndex := 80, attributes := #[] }] 48 2 #[59] #[{ accessFlags := 18, nameIndex := 11, descriptorIndex := 12, attributes := #[] }, { accessFlags := 18, nameIndex := 15, descriptorIndex := 16, attributes := #[] }])
  fields := #[{ name := "elements", type := (.array (.object "java/lang/Object")), accessFlags := 18, slot := 0, constantValue := 0 }, { name := "allowNulls", type := .boolean, accessFlags := 18, slot := 1, constantValue := 0 }]
  methods := #[k22m0, k22m1, k22m2]
  instanceTypes := #[(.array (.object "java/lang/Object")), .boolean]
  staticTypes := #[]
  resolved := Array.replicate 119 none
  statics := none }

def pool23 : Array CpInfo := pool [(1, .class_ 2), (0, u "java/lang/String"), (1, .class_ 6), (1, u "java/lang/Object"), (0, u "<init>"), (0, u "()V"), (0, .methodref 1 10), (0, .nameAndType 11 12), (0, u "checkIndex"), (0, u "(II)V"), (1, .class_ 16), (1, u "java/lang/StringLatin1"), (36, u "([BI)C"), (67, u "$assertionsDisabled"), (0, u "Z"), (98, .class_ 223), (1, u "java/lang/StringLatin1$LinesSpliterator"), (28, u "charAt"), (137, .class_ 391), (0, u "java/lang/StringLatin1$CharsSpliterator")] 3

def k23m0 : Method := { name := "<init>", desc := "()V", sig := { parameters := [], returnType := none }, accessFlags := 0, code := none }
def k23c1 : Code := { maxStack := 2, maxLocals := 2, code := jdk_43_method_2_code, exceptionTable := #[], attributes := #[] }
def k23m1 : Method := { name := "charAt", desc := "([BI)C", sig := { parameters := [(.array .byte), .int], returnType := some .char }, accessFlags := 9, code := some k23c1 }
/-- java/lang/StringLatin1 -/
def k23 : Class := { plain "java/lang/StringLatin1" (some 0) with
  accessFlags := 48
  interfaces := #[]
  cf := some (fileOf pool23 14 #[.nestMembers #[390, 221]] #[{ accessFlags := 0, nameIndex := 7, descriptorIndex := 8, attributes := #[] }, { accessFlags := 9, nameIndex := 252, descriptorIndex := 53, attributes := #[] }] 48 4 #[] #[{ accessFlags := 4120, nameIndex := 121, descriptorIndex := 122, attributes := #[] }])
  fields := #[{ name := "$assertionsDisabled", type := .boolean, accessFlags := 4120, slot := 0, constantValue := 0 }]
  methods := #[k23m0, k23m1]
  instanceTypes := #[]
  staticTypes := #[.boolean]
  resolved := Array.replicate 395 none
  statics := none }

def pool24 : Array CpInfo := pool [(2, .class_ 4), (1, u "java/lang/Object"), (0, u "<init>"), (0, u "()V"), (17, .class_ 26), (1, u "jdk/internal/util/Preconditions"), (6, u "checkIndex"), (21, .class_ 56), (0, u "jdk/internal/util/Preconditions$4"), (57, .class_ 115), (0, u "jdk/internal/util/Preconditions$1"), (7, u "SIOOBE_FORMATTER"), (0, u "Ljava/util/function/BiFunction;"), (0, .class_ 126), (0, u "jdk/internal/util/Preconditions$2"), (3, u "AIOOBE_FORMATTER"), (0, .class_ 132), (0, u "jdk/internal/util/Preconditions$3"), (3, u "IOOBE_FORMATTER"), (41, u "(IILjava/util/function/BiFunction;)I")] 15

def k24m0 : Method := { name := "<init>", desc := "()V", sig := { parameters := [], returnType := none }, accessFlags := 1, code := none }
def k24c1 : Code := { maxStack := 3, maxLocals := 3, code := jdk_41_method_11_code, exceptionTable := #[], attributes := #[] }
def k24m1 : Method := { name := "checkIndex", desc := "(IILjava/util/function/BiFunction;)I", sig := { parameters := [.int, .int, (.object "java/util/function/BiFunction")], returnType := some .int }, accessFlags := 9, code := some k24c1 }
/-- jdk/internal/util/Preconditions -/
def k24 : Class := { plain "jdk/internal/util/Preconditions" (some 0) with
  accessFlags := 33
  interfaces := #[]
  cf := some (fileOf pool24 24 #[.nestMembers #[55, 131, 125, 114]] #[{ accessFlags := 1, nameIndex := 5, descriptorIndex := 6, attributes := #[] }, { accessFlags := 9, nameIndex := 33, descriptorIndex := 178, attributes := #[] }] 33 2 #[] #[{ accessFlags := 25, nameIndex := 123, descriptorIndex := 124, attributes := #[] }, { accessFlags := 25, nameIndex := 130, descriptorIndex := 124, attributes := #[] }, { accessFlags := 25, nameIndex := 136, descriptorIndex := 124, attributes := #[] }])
  fields := #[{ name := "SIOOBE_FORMATTER", type := (.object "java/util/function/BiFunction"), accessFlags := 25, slot := 0, constantValue := 0 }, { name := "AIOOBE_FORMATTER", type := (.object "java/util/function/BiFunction"), accessFlags := 25, slot := 1, constantValue := 0 }, { name := "IOOBE_FORMATTER", type := (.object "java/util/function/BiFunction"), accessFlags := 25, slot := 2, constantValue := 0 }]
  methods := #[k24m0, k24m1]
  instanceTypes := #[]
  staticTypes := #[(.object "java/util/function/BiFunction"), (.object "java/util/function/BiFunction"), (.object "java/util/function/BiFunction")]
  resolved := Array.replicate 194 none
  statics := some 3 }

def pool25 : Array CpInfo := pool [(16, .class_ 18), (1, u "java/util/Iterator"), (0, u "hasNext"), (0, u "()Z"), (2, u "next"), (0, u "()Ljava/lang/Object;"), (6, .class_ 32), (0, u "java/lang/Object")] 20

def k25m0 : Method := { name := "hasNext", desc := "()Z", sig := { parameters := [], returnType := some .boolean }, accessFlags := 1025, code := none }
def k25m1 : Method := { name := "next", desc := "()Ljava/lang/Object;", sig := { parameters := [], returnType := some (.object "java/lang/Object") }, accessFlags := 1025, code := none }
/-- java/util/Iterator -/
def k25 : Class := { plain "java/util/Iterator" (some 0) with
  accessFlags := 1537
  interfaces := #[]
  cf := some (fileOf pool25 16 #[] #[{ accessFlags := 1025, nameIndex := 19, descriptorIndex := 20, attributes := #[] }, { accessFlags := 1025, nameIndex := 23, descriptorIndex := 24, attributes := #[] }] 1537 31 #[] #[])
  fields := #[]
  methods := #[k25m0, k25m1]
  instanceTypes := #[]
  staticTypes := #[]
  resolved := Array.replicate 53 none
  statics := none }

def pool26 : Array CpInfo := pool [(1, .fieldref 2 3), (0, .class_ 4), (0, .nameAndType 5 6), (0, u "java/util/ArrayList$Itr"), (0, u "this$0"), (0, u "Ljava/util/ArrayList;"), (0, .methodref 8 9), (0, .class_ 10), (0, .nameAndType 11 12), (0, u "java/lang/Object"), (0, u "<init>"), (0, u "()V"), (0, .fieldref 2 14), (0, .nameAndType 15 16), (0, u "lastRet"), (0, u "I"), (0, .fieldref 18 19), (0, .class_ 20), (0, .nameAndType 21 16), (0, u "java/util/ArrayList"), (0, u "modCount"), (0, .fieldref 2 23), (0, .nameAndType 24 16), (0, u "expectedModCount"), (0, .fieldref 2 26), (0, .nameAndType 27 16), (0, u "cursor"), (0, .fieldref 18 29), (0, .nameAndType 30 16), (0, u "size"), (0, .methodref 2 32), (0, .nameAndType 33 12), (0, u "checkForComodification"), (3, .fieldref 18 38), (0, .nameAndType 39 40), (0, u "elementData"), (0, u "[Ljava/lang/Object;"), (28, .class_ 70), (0, u "java/util/Iterator"), (0, u "(Ljava/util/ArrayList;)V"), (8, u "hasNext"), (0, u "()Z"), (1, u "next"), (0, u "()Ljava/lang/Object;")] 19

def k26c0 : Code := { maxStack := 2, maxLocals := 2, code := jdk_49_method_1_code, exceptionTable := #[], attributes := #[] }
def k26m0 : Method := { name := "<init>", desc := "(Ljava/util/ArrayList;)V", sig := { parameters := [(.object "java/util/ArrayList")], returnType := none }, accessFlags := 0, code := some k26c0 }
def k26c1 : Code := { maxStack := 2, maxLocals := 1, code := jdk_49_method_2_code, exceptionTable := #[], attributes := #[] }
def k26m1 : Method := { name := "hasNext", desc := "()Z", sig := { parameters := [], returnType := some .boolean }, accessFlags := 1, code := some k26c1 }
def k26c2 : Code := { maxStack := 4, maxLocals := 3, code := jdk_49_method_3_code, exceptionTable := #[], attributes := #[] }
def k26m2 : Method := { name := "next", desc := "()Ljava/lang/Object;", sig := { parameters := [], returnType := some (.object "java/lang/Object") }, accessFlags := 1, code := some k26c2 }
def k26c3 : Code := { maxStack := 2, maxLocals := 1, code := jdk_49_method_6_code, exceptionTable := #[], attributes := #[] }
def k26m3 : Method := { name := "checkForComodification", desc := "()V", sig := { parameters := [], returnType := none }, accessFlags := 16, code := some k26c3 }
/-- java/util/ArrayList$Itr -/
def k26 : Class := { plain "java/util/ArrayList$Itr" (some 0) with
  accessFlags := 32
  interfaces := #[25]
  cf := some (fileOf pool26 2 #[.nestHost 18] #[{ accessFlags := 0, nameIndex := 11, descriptorIndex := 71, attributes := #[] }, { accessFlags := 1, nameIndex := 80, descriptorIndex := 81, attributes := #[] }, { accessFlags := 1, nameIndex := 83, descriptorIndex := 84, attributes := #[] }, { accessFlags := 16, nameIndex := 33, descriptorIndex := 12, attributes := #[] }] 32 8 #[69] #[{ accessFlags := 0, nameIndex := 27, descriptorIndex := 16, attributes := #[] }, { accessFlags := 0, nameIndex := 15, descriptorIndex := 16, attributes := #[] }, { accessFlags := 0, nameIndex := 24, descriptorIndex := 16, attributes := #[] }, { accessFlags := 4112, nameIndex := 5, descriptorIndex := 6, attributes := #[] }])
  fields := #[{ name := "cursor", type := .int, accessFlags := 0, slot := 0, constantValue := 0 }, { name := "lastRet", type := .int, accessFlags := 0, slot := 1, constantValue := 0 }, { name := "expectedModCount", type := .int, accessFlags := 0, slot := 2, constantValue := 0 }, { name := "this$0", type := (.object "java/util/ArrayList"), accessFlags := 4112, slot := 3, constantValue := 0 }]
  methods := #[k26m0, k26m1, k26m2, k26m3]
  instanceTypes := #[.int, .int, .int, (.object "java/util/ArrayList")]
  staticTypes := #[]
  resolved := Array.replicate 104 none
  statics := none }

def pool27 : Array CpInfo := pool [(1, .class_ 2), (0, u "java/lang/Math"), (1, .class_ 6), (1, u "java/lang/Object"), (0, u "<init>"), (0, u "()V"), (89, .class_ 100), (1, u "java/lang/Math$RandomNumberGeneratorHolder"), (71, u "negativeZeroFloatBits"), (0, u "J"), (2, u "negativeZeroDoubleBits"), (21, u "max"), (2, u "min"), (43, u "$assertionsDisabled"), (0, u "Z"), (88, u "(II)I"), (2, u "twoToTheDoubleScaleDown"), (0, u "D"), (4, u "twoToTheDoubleScaleUp"), (9, u "E"), (3, u "PI"), (2, u "TAU"), (2, u "DEGREES_TO_RADIANS"), (0, u "RADIANS_TO_DEGREES")] 94

def k27m0 : Method := { name := "<init>", desc := "()V", sig := { parameters := [], returnType := none }, accessFlags := 2, code := none }
def k27c1 : Code := { maxStack := 2, maxLocals := 2, code := jdk_29_method_65_code, exceptionTable := #[], attributes := #[] }
def k27m1 : Method := { name := "max", desc := "(II)I", sig := { parameters := [.int, .int], returnType := some .int }, accessFlags := 9, code := some k27c1 }
def k27c2 : Code := { maxStack := 2, maxLocals := 2, code := jdk_29_method_69_code, exceptionTable := #[], attributes := #[] }
def k27m2 : Method := { name := "min", desc := "(II)I", sig := { parameters := [.int, .int], returnType := some .int }, accessFlags := 9, code := some k27c2 }
/-- java/lang/Math -/
def k27 : Class := { plain "java/lang/Math" (some 0) with
  accessFlags := 49
  interfaces := #[]
  cf := some (fileOf pool27 1 #[.nestMembers #[98]] #[{ accessFlags := 2, nameIndex := 7, descriptorIndex := 8, attributes := #[] }, { accessFlags := 9, nameIndex := 198, descriptorIndex := 335, attributes := #[] }, { accessFlags := 9, nameIndex := 201, descriptorIndex := 335, attributes := #[] }] 49 4 #[] #[{ accessFlags := 25, nameIndex := 354, descriptorIndex := 339, attributes := #[] }, { accessFlags := 25, nameIndex := 358, descriptorIndex := 339, attributes := #[] }, { accessFlags := 25, nameIndex := 361, descriptorIndex := 339, attributes := #[] }, { accessFlags := 26, nameIndex := 364, descriptorIndex := 339, attributes := #[] }, { accessFlags := 26, nameIndex := 365, descriptorIndex := 339, attributes := #[] }, { accessFlags := 26, nameIndex := 172, descriptorIndex := 173, attributes := #[] }, { accessFlags := 26, nameIndex := 176, descriptorIndex := 173, attributes := #[] }, { accessFlags := 8, nameIndex := 344, descriptorIndex := 339, attributes := #[] }, { accessFlags := 8, nameIndex := 338, descriptorIndex := 339, attributes := #[] }, { accessFlags := 4120, nameIndex := 245, descriptorIndex := 246, attributes := #[] }])
  fields := #[{ name := "E", type := .double, accessFlags := 25, slot := 0, constantValue := 0 }, { name := "PI", type := .double, accessFlags := 25, slot := 1, constantValue := 0 }, { name := "TAU", type := .double, accessFlags := 25, slot := 2, constantValue := 0 }, { name := "DEGREES_TO_RADIANS", type := .double, accessFlags := 26, slot := 3, constantValue := 0 }, { name := "RADIANS_TO_DEGREES", type := .double, accessFlags := 26, slot := 4, constantValue := 0 }, { name := "negativeZeroFloatBits", type := .long, accessFlags := 26, slot := 5, constantValue := 0 }, { name := "negativeZeroDoubleBits", type := .long, accessFlags := 26, slot := 6, constantValue := 0 }, { name := "twoToTheDoubleScaleUp", type := .double, accessFlags := 8, slot := 7, constantValue := 0 }, { name := "twoToTheDoubleScaleDown", type := .double, accessFlags := 8, slot := 8, constantValue := 0 }, { name := "$assertionsDisabled", type := .boolean, accessFlags := 4120, slot := 9, constantValue := 0 }]
  methods := #[k27m0, k27m1, k27m2]
  instanceTypes := #[]
  staticTypes := #[.double, .double, .double, .double, .double, .long, .long, .double, .double, .boolean]
  resolved := Array.replicate 460 none
  statics := none }

def pool28 : Array CpInfo := pool [(2, .class_ 4), (1, u "java/lang/Object"), (0, u "<init>"), (0, u "()V"), (7, .class_ 16), (1, u "java/util/Arrays"), (57, .class_ 76), (1, u "java/util/Arrays$NaturalOrder"), (9, .methodref 2 87), (0, .nameAndType 88 89), (0, u "getClass"), (0, u "()Ljava/lang/Class;"), (20, .class_ 111), (0, u "[Ljava/lang/Object;"), (1, .class_ 115), (1, u "java/util/Arrays$LegacyMergeSort"), (1, u "Z"), (32, .methodref 151 152), (0, .class_ 153), (0, .nameAndType 154 155), (0, u "java/lang/System"), (0, u "arraycopy"), (0, u "(Ljava/lang/Object;ILjava/lang/Object;II)V"), (144, .methodref 14 301), (0, .nameAndType 302 303), (0, u "copyOf"), (0, u "([Ljava/lang/Object;ILjava/lang/Class;)[Ljava/lang/Object;"), (0, .methodref 305 306), (0, .class_ 307), (0, .nameAndType 308 309), (0, u "java/lang/Math"), (0, u "min"), (0, u "(II)I"), (65, .class_ 376), (0, u "java/util/Arrays$ArrayList"), (68, u "$assertionsDisabled"), (269, u "MIN_ARRAY_SORT_GRAN"), (0, u "I"), (2, u "INSERTIONSORT_THRESHOLD"), (140, u "([Ljava/lang/Object;I)[Ljava/lang/Object;"), (114, .class_ 976), (0, u "java/util/Arrays$ArrayItr")] 52

def k28m0 : Method := { name := "<init>", desc := "()V", sig := { parameters := [], returnType := none }, accessFlags := 2, code := none }
def k28c1 : Code := { maxStack := 3, maxLocals := 2, code := jdk_65_method_119_code, exceptionTable := #[], attributes := #[] }
def k28m1 : Method := { name := "copyOf", desc := "([Ljava/lang/Object;I)[Ljava/lang/Object;", sig := { parameters := [(.array (.object "java/lang/Object")), .int], returnType := some (.array (.object "java/lang/Object")) }, accessFlags := 9, code := some k28c1 }
def k28c2 : Code := { maxStack := 6, maxLocals := 4, code := jdk_65_method_120_code, exceptionTable := #[], attributes := #[] }
def k28m2 : Method := { name := "copyOf", desc := "([Ljava/lang/Object;ILjava/lang/Class;)[Ljava/lang/Object;", sig := { parameters := [(.array (.object "java/lang/Object")), .int, (.object "java/lang/Class")], returnType := some (.array (.object "java/lang/Object")) }, accessFlags := 9, code := some k28c2 }
/-- java/util/Arrays -/
def k28 : Class := { plain "java/util/Arrays" (some 0) with
  accessFlags := 49
  interfaces := #[]
  cf := some (fileOf pool28 14 #[.nestMembers #[975, 375, 113, 74]] #[{ accessFlags := 2, nameIndex := 5, descriptorIndex := 6, attributes := #[] }, { accessFlags := 9, nameIndex := 302, descriptorIndex := 860, attributes := #[] }, { accessFlags := 9, nameIndex := 302, descriptorIndex := 303, attributes := #[] }] 49 2 #[] #[{ accessFlags := 26, nameIndex := 715, descriptorIndex := 716, attributes := #[] }, { accessFlags := 26, nameIndex := 719, descriptorIndex := 716, attributes := #[] }, { accessFlags := 4120, nameIndex := 445, descriptorIndex := 117, attributes := #[] }])
  fields := #[{ name := "MIN_ARRAY_SORT_GRAN", type := .int, accessFlags := 26, slot := 0, constantValue := 0 }, { name := "INSERTIONSORT_THRESHOLD", type := .int, accessFlags := 26, slot := 1, constantValue := 0 }, { name := "$assertionsDisabled", type := .boolean, accessFlags := 4120, slot := 2, constantValue := 0 }]
  methods := #[k28m0, k28m1, k28m2]
  instanceTypes := #[]
  staticTypes := #[.int, .int, .boolean]
  resolved := Array.replicate 1029 none
  statics := none }

def pool29 : Array CpInfo := pool [(2, .class_ 4), (1, u "java/lang/Object"), (0, u "<init>"), (0, u "()V"), (1, .class_ 10), (1, u "java/lang/System"), (0, u "allowSecurityManager"), (0, u "I"), (16, u "cons"), (0, u "Ljava/io/Console;"), (77, .class_ 110), (1, u "java/lang/System$CallersHolder"), (43, u "initialErrStream"), (0, u "Ljava/io/PrintStream;"), (19, u "security"), (0, u "Ljava/lang/SecurityManager;"), (31, .class_ 209), (0, u "java/lang/System$1"), (7, u "props"), (0, u "Ljava/util/Properties;"), (2, u "lineSeparator"), (0, u "Ljava/lang/String;"), (96, .class_ 321), (1, u "java/lang/System$LoggerFinder"), (5, .class_ 328), (0, u "java/lang/System$Logger"), (67, u "err"), (2, u "out"), (91, u "notSupportedJnuEncoding"), (15, u "in"), (17, u "initialIn"), (0, u "Ljava/io/InputStream;"), (35, u "bootLayer"), (0, u "Ljava/lang/ModuleLayer;"), (99, .class_ 664), (0, u "java/lang/System$2"), (9, u "NEVER"), (2, u "MAYBE"), (49, u "arraycopy"), (0, u "(Ljava/lang/Object;ILjava/lang/Object;II)V"), (72, .class_ 802), (0, u "java/lang/System$Logger$Level")] 31

def k29m0 : Method := { name := "<init>", desc := "()V", sig := { parameters := [], returnType := none }, accessFlags := 2, code := none }
def k29m1 : Method := { name := "arraycopy", desc := "(Ljava/lang/Object;ILjava/lang/Object;II)V", sig := { parameters := [(.object "java/lang/Object"), .int, (.object "java/lang/Object"), .int, .int], returnType := none }, accessFlags := 265, code := none }
/-- java/lang/System -/
def k29 : Class := { plain "java/lang/System" (some 0) with
  accessFlags := 49
  interfaces := #[]
  cf := some (fileOf pool29 8 #[.nestMembers #[319, 327, 801, 108, 663, 208]] #[{ accessFlags := 2, nameIndex := 5, descriptorIndex := 6, attributes := #[] }, { accessFlags := 265, nameIndex := 727, descriptorIndex := 728, attributes := #[] }] 49 2 #[] #[{ accessFlags := 25, nameIndex := 507, descriptorIndex := 526, attributes := #[] }, { accessFlags := 25, nameIndex := 399, descriptorIndex := 155, attributes := #[] }, { accessFlags := 25, nameIndex := 396, descriptorIndex := 155, attributes := #[] }, { accessFlags := 10, nameIndex := 525, descriptorIndex := 526, attributes := #[] }, { accessFlags := 26, nameIndex := 674, descriptorIndex := 12, attributes := #[] }, { accessFlags := 26, nameIndex := 677, descriptorIndex := 12, attributes := #[] }, { accessFlags := 10, nameIndex := 11, descriptorIndex := 12, attributes := #[] }, { accessFlags := 74, nameIndex := 175, descriptorIndex := 176, attributes := #[] }, { accessFlags := 10, nameIndex := 491, descriptorIndex := 222, attributes := #[] }, { accessFlags := 74, nameIndex := 29, descriptorIndex := 30, attributes := #[] }, { accessFlags := 74, nameIndex := 154, descriptorIndex := 155, attributes := #[] }, { accessFlags := 10, nameIndex := 217, descriptorIndex := 218, attributes := #[] }, { accessFlags := 10, nameIndex := 221, descriptorIndex := 222, attributes := #[] }, { accessFlags := 8, nameIndex := 562, descriptorIndex := 563, attributes := #[] }])
  fields := #[{ name := "in", type := (.object "java/io/InputStream"), accessFlags := 25, slot := 0, constantValue := 0 }, { name := "out", type := (.object "java/io/PrintStream"), accessFlags := 25, slot := 1, constantValue := 0 }, { name := "err", type := (.object "java/io/PrintStream"), accessFlags := 25, slot := 2, constantValue := 0 }, { name := "initialIn", type := (.object "java/io/InputStream"), accessFlags := 10, slot := 3, constantValue := 0 }, { name := "NEVER", type := .int, accessFlags := 26, slot := 4, constantValue := 0 }, { name := "MAYBE", type := .int, accessFlags := 26, slot := 5, constantValue := 0 }, { name := "allowSecurityManager", type := .int, accessFlags := 10, slot := 6, constantValue := 0 }, { name := "security", type := (.object "java/lang/SecurityManager"), accessFlags := 74, slot := 7, constantValue := 0 }, { name := "notSupportedJnuEncoding", type := (.object "java/lang/String"), accessFlags := 10, slot := 8, constantValue := 0 }, { name := "cons", type := (.object "java/io/Console"), accessFlags := 74, slot := 9, constantValue := 0 }, { name := "initialErrStream", type := (.object "java/io/PrintStream"), accessFlags := 74, slot := 10, constantValue := 0 }, { name := "props", type := (.object "java/util/Properties"), accessFlags := 10, slot := 11, constantValue := 0 }, { name := "lineSeparator", type := (.object "java/lang/String"), accessFlags := 10, slot := 12, constantValue := 0 }, { name := "bootLayer", type := (.object "java/lang/ModuleLayer"), accessFlags := 8, slot := 13, constantValue := 0 }]
  methods := #[k29m0, k29m1]
  instanceTypes := #[]
  staticTypes := #[(.object "java/io/InputStream"), (.object "java/io/PrintStream"), (.object "java/io/PrintStream"), (.object "java/io/InputStream"), .int, .int, .int, (.object "java/lang/SecurityManager"), (.object "java/lang/String"), (.object "java/io/Console"), (.object "java/io/PrintStream"), (.object "java/util/Properties"), (.object "java/lang/String"), (.object "java/lang/ModuleLayer")]
  resolved := Array.replicate 834 none
  statics := none }

def pool30 : Array CpInfo := pool [(2, .class_ 4), (1, u "java/lang/Object"), (0, u "<init>"), (0, u "()V"), (35, .class_ 44), (1, u "java/util/Objects"), (0, u "requireNonNull"), (0, u "(Ljava/lang/Object;)Ljava/lang/Object;"), (58, .methodref 106 107), (0, .class_ 108), (0, .nameAndType 109 110), (0, u "jdk/internal/util/Preconditions"), (0, u "checkIndex"), (0, u "(IILjava/util/function/BiFunction;)I"), (60, u "(II)I")] 12

def k30m0 : Method := { name := "<init>", desc := "()V", sig := { parameters := [], returnType := none }, accessFlags := 2, code := none }
def k30c1 : Code := { maxStack := 2, maxLocals := 1, code := jdk_31_method_10_code, exceptionTable := #[], attributes := #[] }
def k30m1 : Method := { name := "requireNonNull", desc := "(Ljava/lang/Object;)Ljava/lang/Object;", sig := { parameters := [(.object "java/lang/Object")], returnType := some (.object "java/lang/Object") }, accessFlags := 9, code := some k30c1 }
def k30c2 : Code := { maxStack := 3, maxLocals := 2, code := jdk_31_method_17_code, exceptionTable := #[], attributes := #[] }
def k30m2 : Method := { name := "checkIndex", desc := "(II)I", sig := { parameters := [.int, .int], returnType := some .int }, accessFlags := 9, code := some k30c2 }
/-- java/util/Objects -/
def k30 : Class := { plain "java/util/Objects" (some 0) with
  accessFlags := 49
  interfaces := #[]
  cf := some (fileOf pool30 42 #[] #[{ accessFlags := 2, nameIndex := 5, descriptorIndex := 6, attributes := #[] }, { accessFlags := 9, nameIndex := 45, descriptorIndex := 46, attributes := #[] }, { accessFlags := 9, nameIndex := 109, descriptorIndex := 171, attributes := #[] }] 49 2 #[] #[])
  fields := #[]
  methods := #[k30m0, k30m1, k30m2]
  instanceTypes := #[]
  staticTypes := #[]
  resolved := Array.replicate 184 none
  statics := none }

def pool31 : Array CpInfo := pool [(9, u "<init>"), (6, .class_ 18), (1, u "java/lang/Object"), (0, u "()V"), (1, .class_ 23), (1, u "jdk/internal/util/ArraysSupport"), (0, u "LOG2_ARRAY_LONG_INDEX_SCALE"), (0, u "I"), (2, u "U"), (0, u "Ljdk/internal/misc/Unsafe;"), (8, u "BIG_ENDIAN"), (0, u "Z"), (8, u "LOG2_BYTE_BIT_SIZE"), (4, u "LOG2_ARRAY_INT_INDEX_SCALE"), (54, u "JLA"), (0, u "Ljdk/internal/access/JavaLangAccess;"), (11, u "LOG2_ARRAY_BOOLEAN_INDEX_SCALE"), (9, u "LOG2_ARRAY_BYTE_INDEX_SCALE"), (5, u "LOG2_ARRAY_CHAR_INDEX_SCALE"), (5, u "LOG2_ARRAY_SHORT_INDEX_SCALE"), (18, u "LOG2_ARRAY_FLOAT_INDEX_SCALE"), (24, u "LOG2_ARRAY_DOUBLE_INDEX_SCALE"), (89, u "T_BOOLEAN"), (2, u "T_CHAR"), (1, u "T_FLOAT"), (1, u "T_DOUBLE"), (1, u "T_BYTE"), (1, u "T_SHORT"), (1, u "T_INT"), (1, u "T_LONG"), (1, u "SOFT_MAX_ARRAY_LENGTH")] 83

def k31m0 : Method := { name := "<init>", desc := "()V", sig := { parameters := [], returnType := none }, accessFlags := 2, code := none }
/-- jdk/internal/util/ArraysSupport -/
def k31 : Class := { plain "jdk/internal/util/ArraysSupport" (some 0) with
  accessFlags := 33
  interfaces := #[]
  cf := some (fileOf pool31 21 #[] #[{ accessFlags := 2, nameIndex := 9, descriptorIndex := 19, attributes := #[] }] 33 16 #[] #[{ accessFlags := 24, nameIndex := 28, descriptorIndex := 29, attributes := #[] }, { accessFlags := 26, nameIndex := 38, descriptorIndex := 39, attributes := #[] }, { accessFlags := 25, nameIndex := 121, descriptorIndex := 25, attributes := #[] }, { accessFlags := 25, nameIndex := 131, descriptorIndex := 25, attributes := #[] }, { accessFlags := 25, nameIndex := 137, descriptorIndex := 25, attributes := #[] }, { accessFlags := 25, nameIndex := 143, descriptorIndex := 25, attributes := #[] }, { accessFlags := 25, nameIndex := 53, descriptorIndex := 25, attributes := #[] }, { accessFlags := 25, nameIndex := 24, descriptorIndex := 25, attributes := #[] }, { accessFlags := 25, nameIndex := 162, descriptorIndex := 25, attributes := #[] }, { accessFlags := 25, nameIndex := 187, descriptorIndex := 25, attributes := #[] }, { accessFlags := 26, nameIndex := 48, descriptorIndex := 25, attributes := #[] }, { accessFlags := 25, nameIndex := 277, descriptorIndex := 25, attributes := #[] }, { accessFlags := 25, nameIndex := 280, descriptorIndex := 25, attributes := #[] }, { accessFlags := 25, nameIndex := 282, descriptorIndex := 25, attributes := #[] }, { accessFlags := 25, nameIndex := 284, descriptorIndex := 25, attributes := #[] }, { accessFlags := 25, nameIndex := 286, descriptorIndex := 25, attributes := #[] }, { accessFlags := 25, nameIndex := 288, descriptorIndex := 25, attributes := #[] }, { accessFlags := 25, nameIndex := 290, descriptorIndex := 25, attributes := #[] }, { accessFlags := 25, nameIndex := 292, descriptorIndex := 25, attributes := #[] }, { accessFlags := 26, nameIndex := 108, descriptorIndex := 109, attributes := #[] }, { accessFlags := 25, nameIndex := 294, descriptorIndex := 25, attributes := #[] }])
  fields := #[{ name := "U", type := (.object "jdk/internal/misc/Unsafe"), accessFlags := 24, slot := 0, constantValue := 0 }, { name := "BIG_ENDIAN", type := .boolean, accessFlags := 26, slot := 1, constantValue := 0 }, { name := "LOG2_ARRAY_BOOLEAN_INDEX_SCALE", type := .int, accessFlags := 25, slot := 2, constantValue := 0 }, { name := "LOG2_ARRAY_BYTE_INDEX_SCALE", type := .int, accessFlags := 25, slot := 3, constantValue := 0 }, { name := "LOG2_ARRAY_CHAR_INDEX_SCALE", type := .int, accessFlags := 25, slot := 4, constantValue := 0 }, { name := "LOG2_ARRAY_SHORT_INDEX_SCALE", type := .int, accessFlags := 25, slot := 5, constantValue := 0 }, { name := "LOG2_ARRAY_INT_INDEX_SCALE", type := .int, accessFlags := 25, slot := 6, constantValue := 0 }, { name := "LOG2_ARRAY_LONG_INDEX_SCALE", type := .int, accessFlags := 25, slot := 7, constantValue := 0 }, { name := "LOG2_ARRAY_FLOAT_INDEX_SCALE", type := .int, accessFlags := 25, slot := 8, constantValue := 0 }, { name := "LOG2_ARRAY_DOUBLE_INDEX_SCALE", type := .int, accessFlags := 25, slot := 9, constantValue := 0 }, { name := "LOG2_BYTE_BIT_SIZE", type := .int, accessFlags := 26, slot := 10, constantValue := 0 }, { name := "T_BOOLEAN", type := .int, accessFlags := 25, slot := 11, constantValue := 0 }, { name := "T_CHAR", type := .int, accessFlags := 25, slot := 12, constantValue := 0 }, { name := "T_FLOAT", type := .int, accessFlags := 25, slot := 13, constantValue := 0 }, { name := "T_DOUBLE", type := .int, accessFlags := 25, slot := 14, constantValue := 0 }, { name := "T_BYTE", type := .int, accessFlags := 25, slot := 15, constantValue := 0 }, { name := "T_SHORT", type := .int, accessFlags := 25, slot := 16, constantValue := 0 }, { name := "T_INT", type := .int, accessFlags := 25, slot := 17, constantValue := 0 }, { name := "T_LONG", type := .int, accessFlags := 25, slot := 18, constantValue := 0 }, { name := "JLA", type := (.object "jdk/internal/access/JavaLangAccess"), accessFlags := 26, slot := 19, constantValue := 0 }, { name := "SOFT_MAX_ARRAY_LENGTH", type := .int, accessFlags := 25, slot := 20, constantValue := 0 }]
  methods := #[k31m0]
  instanceTypes := #[]
  staticTypes := #[(.object "jdk/internal/misc/Unsafe"), .boolean, .int, .int, .int, .int, .int, .int, .int, .int, .int, .int, .int, .int, .int, .int, .int, .int, .int, (.object "jdk/internal/access/JavaLangAccess"), .int]
  resolved := Array.replicate 378 none
  statics := none }

def pool32 : Array CpInfo := pool [(1, u "java/lang/Class"), (0, .class_ 1), (0, u "java/lang/Object"), (0, .class_ 3)] 0

/-- java/lang/Class -/
def k32 : Class := { plain "java/lang/Class" (some 0) with
  accessFlags := 49
  interfaces := #[]
  cf := some (fileOf pool32 2 #[] #[] 49 4 #[] #[])
  fields := #[]
  methods := #[]
  instanceTypes := #[]
  staticTypes := #[]
  resolved := Array.replicate 5 none
  statics := none }

/-- the primitive byte -/
def k33 : Class := { plain "byte" none with kind := .primitive 'B', accessFlags := 0x411 }
/-- [B -/
def k34 : Class := { plain "[B" (some 0) with kind := .array 33 .byte, interfaces := #[9, 10], accessFlags := 1041 }

/-- the primitive int -/
def k35 : Class := { plain "int" none with kind := .primitive 'I', accessFlags := 0x411 }
/-- [I -/
def k36 : Class := { plain "[I" (some 0) with kind := .array 35 .int, interfaces := #[9, 10], accessFlags := 1041 }

/-- [Lcom/example/tributary/tributary/merge/Tree; -/
def k37 : Class := { plain "[Lcom/example/tributary/tributary/merge/Tree;" (some 0) with kind := .array 12 (.object "com/example/tributary/tributary/merge/Tree"), interfaces := #[9, 10], accessFlags := 1041 }

/-- [Ljava/lang/Object; -/
def k38 : Class := { plain "[Ljava/lang/Object;" (some 0) with kind := .array 0 (.object "java/lang/Object"), interfaces := #[9, 10], accessFlags := 1041, mirror := some 4 }

def heap : Heap := #[{ cls := 11, slots := #[.long 0, .int 0, .ref 5, .ref 6], vm := .statics 11 },
  { cls := 17, slots := #[.long 0, .int 1, .null, .int 0, .null, .int 0, .int 0], vm := .statics 17 },
  { cls := 18, slots := #[.long 0, .int 0, .null, .ref 8, .ref 7, .null, .null, .null, .int 0, .int 1], vm := .statics 18 },
  { cls := 24, slots := #[.null, .null, .null], vm := .statics 24 },
  { cls := 32, slots := #[], vm := .mirror 38 },
  { cls := 38, slots := #[], vm := .none },
  { cls := 38, slots := #[], vm := .none },
  { cls := 22, slots := #[.ref 5, .int 0], vm := .none },
  { cls := 0, slots := #[], vm := .none }]
def classes : Array Class := #[k0, k1, k2, k3, k4, k5, k6, k7, k8, k9, k10, k11, k12, k13, k14, k15, k16, k17, k18, k19, k20, k21, k22, k23, k24, k25, k26, k27, k28, k29, k30, k31, k32, k33, k34, k35, k36, k37, k38]
def interned : List (Array UInt16 × Addr) := []
def slotsUsed : Nat := 26
def theMethod : MethodId := ⟨1, 3⟩
def args0 : Array Value := #[.int 1, .int 2, .int 1, .int 2]
def aboutOver (below : List Frame) : State where
  vm := { classes := classes, interned := interned.toArray }
  heap := heap
  slotsUsed := slotsUsed
  threads := #[{ frames := .invoking theMethod args0 :: below }]
def below0 : List Frame := [.native { method := ⟨0, 0⟩, args := #[] }]
def about1 : State := aboutOver below0
def p0 : Program := .bare "" "" ""
def e0 : Env := launch0.env 0 0 0
theorem w_frames : about1.frames = Frame.invoking theMethod args0 :: below0 := rfl
theorem w_args : argsFit about1.vm theMethod args0 = true := by decide +kernel
theorem w_heap : heapFits about1 = true := by decide +kernel
theorem w_runnable : about1.curStatus? = some .runnable := by decide +kernel
theorem w_alone : about1.alone = true := by decide +kernel
theorem w_named : about1.methodNamed? x = some theMethod := by decide +kernel
theorem w_hears : about1.hears theMethod below0 = true := by decide +kernel
theorem w_ripe : about1.ripe theMethod args0 below0 = true := by decide +kernel
theorem w_running : about1.status = .running := rfl
theorem w_room : about1.hasRoom e0.platform room_1 = true :=
  launch0.hasRoom_least _ room_1 (by decide +kernel) (by decide +kernel) (by decide +kernel) (by decide +kernel) (by decide +kernel) (by decide +kernel)
theorem allAtoms_all (ts : List Jvm.Cond) (a : Array Jvm.Value) (st : Jvm.State) : (allAtoms ts).before a st = ts.all (fun c => c.before a st) := by
  induction ts with
  | nil => rfl
  | cons c t ih =>
    show (Jvm.Cond.and c (allAtoms t)).before a st = _
    rw [Jvm.Cond.before_and, ih, List.all_cons]
def words1 : List Jvm.Cond := Jvm.Cond.code x code maxLocals ret :: tables_1
/-- a 'code' word, met by the world's own term for the bytes: nothing is compared byte by byte -/
theorem code_word {y : MethodName} {bytes : ByteArray} {mx : Nat} {rt : Option FieldType} {a : Array Value} {s : State} {m : MethodId} {meth : Method} {c : Code} (h1 : s.methodNamed? y = some m) (h2 : s.vm.method? m = some meth) (h3 : meth.code = some c) (h4 : c.code = bytes)
    (h5 : (c.maxLocals == mx && c.exceptionTable.isEmpty && decide (c.maxStack ≤ mostOperands) && decide (meth.sig.returnType = rt) && !meth.locks && decide (parseMethodDescriptor y.desc = some meth.sig)) = true) : (Jvm.Cond.code y bytes mx rt).before a s = true := by
  simp only [Bool.and_eq_true, beq_iff_eq, Bool.not_eq_true', decide_eq_true_eq] at h5
  obtain ⟨⟨⟨⟨⟨g1, g2⟩, g3⟩, g4⟩, g5⟩, g6⟩ := h5
  simp [Cond.before, Cond.holds, Cond.value, h1, h2, h3, h4, g1, g2, g3, g4, g5, g6]
def isCode : Jvm.Cond → Bool
  | .code _ _ _ _ => true
  | _ => false
theorem all_split {L : List Jvm.Cond} {P : Jvm.Cond → Bool} (h1 : L.all (fun c => isCode c || P c) = true) (h2 : ∀ c ∈ L.filter isCode, P c = true) : L.all P = true := by
  refine List.all_eq_true.mpr fun c hc => ?_
  have h := List.all_eq_true.mp h1 c hc
  rcases Bool.eq_false_or_eq_true (isCode c) with hi | hi
  · exact h2 c (List.mem_filter.mpr ⟨hc, hi⟩)
  · simpa [hi] using h
theorem w_c0 : (Jvm.Cond.code x code maxLocals ret).before args0 about1 = true := code_word (m := ⟨1, 3⟩) (meth := k1m3) (c := k1c3) (by decide +kernel) rfl rfl rfl (by decide +kernel)
theorem w_c1 : (Jvm.Cond.code ({ cls := "java/util/ArrayList", name := "<init>", desc := "()V" } : Jvm.MethodName) jdk_38_method_2_code (1 : Nat) (Option.none : Option Jvm.ClassFile.FieldType)).before args0 about1 = true := code_word (m := ⟨11, 1⟩) (meth := k11m1) (c := k11c1) (by decide +kernel) rfl rfl rfl (by decide +kernel)
theorem w_c2 : (Jvm.Cond.code ({ cls := "java/util/AbstractList", name := "<init>", desc := "()V" } : Jvm.MethodName) jdk_39_method_1_code (1 : Nat) (Option.none : Option Jvm.ClassFile.FieldType)).before args0 about1 = true := code_word (m := ⟨7, 0⟩) (meth := k7m0) (c := k7c0) (by decide +kernel) rfl rfl rfl (by decide +kernel)
theorem w_c3 : (Jvm.Cond.code ({ cls := "java/util/AbstractCollection", name := "<init>", desc := "()V" } : Jvm.MethodName) jdk_22_method_1_code (1 : Nat) (Option.none : Option Jvm.ClassFile.FieldType)).before args0 about1 = true := code_word (m := ⟨4, 0⟩) (meth := k4m0) (c := k4c0) (by decide +kernel) rfl rfl rfl (by decide +kernel)
theorem w_c4 : (Jvm.Cond.code ({ cls := "java/lang/Object", name := "<init>", desc := "()V" } : Jvm.MethodName) object_method_1_code (1 : Nat) (Option.none : Option Jvm.ClassFile.FieldType)).before args0 about1 = true := code_word (m := ⟨0, 0⟩) (meth := k0m0) (c := k0c0) (by decide +kernel) rfl rfl rfl (by decide +kernel)
theorem w_c5 : (Jvm.Cond.code ({ cls := "com/example/tributary/tributary/merge/TreeContainsPinLaw", name := "node", desc := "(Ljava/util/ArrayList;)Lcom/example/tributary/tributary/merge/Tree;" } : Jvm.MethodName) method_2_code (1 : Nat) (Option.some (Jvm.ClassFile.FieldType.object "com/example/tributary/tributary/merge/Tree"))).before args0 about1 = true := code_word (m := ⟨1, 1⟩) (meth := k1m1) (c := k1c1) (by decide +kernel) rfl rfl rfl (by decide +kernel)
theorem w_c6 : (Jvm.Cond.code ({ cls := "com/example/tributary/tributary/merge/Tree", name := "<init>", desc := "(Ljava/lang/String;Ljava/lang/String;Lcom/example/tributary/tributary/merge/Symbol;Ljava/lang/String;Ljava/lang/String;Ljava/util/List;Ljava/util/List;ZZLcom/example/tributary/tributary/merge/Code;IILjava/util/List;J)V" } : Jvm.MethodName) prog_45_method_1_code (22 : Nat) (Option.none : Option Jvm.ClassFile.FieldType)).before args0 about1 = true := code_word (m := ⟨12, 0⟩) (meth := k12m0) (c := k12c0) (by decide +kernel) rfl rfl rfl (by decide +kernel)
theorem w_c7 : (Jvm.Cond.code ({ cls := "java/util/List", name := "copyOf", desc := "(Ljava/util/Collection;)Ljava/util/List;" } : Jvm.MethodName) jdk_40_method_48_code (1 : Nat) (Option.some (Jvm.ClassFile.FieldType.object "java/util/List"))).before args0 about1 = true := code_word (m := ⟨6, 5⟩) (meth := k6m5) (c := k6c5) (by decide +kernel) rfl rfl rfl (by decide +kernel)
theorem w_c8 : (Jvm.Cond.code ({ cls := "java/util/ImmutableCollections", name := "listCopy", desc := "(Ljava/util/Collection;)Ljava/util/List;" } : Jvm.MethodName) jdk_56_method_3_code (2 : Nat) (Option.some (Jvm.ClassFile.FieldType.object "java/util/List"))).before args0 about1 = true := code_word (m := ⟨18, 1⟩) (meth := k18m1) (c := k18c1) (by decide +kernel) rfl rfl rfl (by decide +kernel)
theorem w_c9 : (Jvm.Cond.code ({ cls := "java/util/ArrayList", name := "isEmpty", desc := "()Z" } : Jvm.MethodName) jdk_38_method_9_code (1 : Nat) (Option.some Jvm.ClassFile.FieldType.boolean)).before args0 about1 = true := code_word (m := ⟨11, 5⟩) (meth := k11m5) (c := k11c5) (by decide +kernel) rfl rfl rfl (by decide +kernel)
theorem w_c10 : (Jvm.Cond.code ({ cls := "java/util/List", name := "of", desc := "()Ljava/util/List;" } : Jvm.MethodName) jdk_40_method_36_code (0 : Nat) (Option.some (Jvm.ClassFile.FieldType.object "java/util/List"))).before args0 about1 = true := code_word (m := ⟨6, 3⟩) (meth := k6m3) (c := k6c3) (by decide +kernel) rfl rfl rfl (by decide +kernel)
theorem w_c11 : (Jvm.Cond.code ({ cls := "com/example/tributary/tributary/merge/Tree", name := "mix", desc := "(JLjava/lang/String;)J" } : Jvm.MethodName) prog_45_method_2_code (6 : Nat) (Option.some Jvm.ClassFile.FieldType.long)).before args0 about1 = true := code_word (m := ⟨12, 1⟩) (meth := k12m1) (c := k12c1) (by decide +kernel) rfl rfl rfl (by decide +kernel)
theorem w_c12 : (Jvm.Cond.code ({ cls := "java/lang/String", name := "length", desc := "()I" } : Jvm.MethodName) jdk_42_method_54_code (1 : Nat) (Option.some Jvm.ClassFile.FieldType.int)).before args0 about1 = true := code_word (m := ⟨17, 1⟩) (meth := k17m1) (c := k17c1) (by decide +kernel) rfl rfl rfl (by decide +kernel)
theorem w_c13 : (Jvm.Cond.code ({ cls := "java/lang/String", name := "coder", desc := "()B" } : Jvm.MethodName) jdk_42_method_152_code (1 : Nat) (Option.some Jvm.ClassFile.FieldType.byte)).before args0 about1 = true := code_word (m := ⟨17, 3⟩) (meth := k17m3) (c := k17c3) (by decide +kernel) rfl rfl rfl (by decide +kernel)
theorem w_c14 : (Jvm.Cond.code ({ cls := "java/lang/String", name := "charAt", desc := "(I)C" } : Jvm.MethodName) jdk_42_method_56_code (2 : Nat) (Option.some Jvm.ClassFile.FieldType.char)).before args0 about1 = true := code_word (m := ⟨17, 2⟩) (meth := k17m2) (c := k17c2) (by decide +kernel) rfl rfl rfl (by decide +kernel)
theorem w_c15 : (Jvm.Cond.code ({ cls := "java/lang/String", name := "isLatin1", desc := "()Z" } : Jvm.MethodName) jdk_42_method_154_code (1 : Nat) (Option.some Jvm.ClassFile.FieldType.boolean)).before args0 about1 = true := code_word (m := ⟨17, 4⟩) (meth := k17m4) (c := k17c4) (by decide +kernel) rfl rfl rfl (by decide +kernel)
theorem w_c16 : (Jvm.Cond.code ({ cls := "java/lang/StringLatin1", name := "charAt", desc := "([BI)C" } : Jvm.MethodName) jdk_43_method_2_code (2 : Nat) (Option.some Jvm.ClassFile.FieldType.char)).before args0 about1 = true := code_word (m := ⟨23, 1⟩) (meth := k23m1) (c := k23c1) (by decide +kernel) rfl rfl rfl (by decide +kernel)
theorem w_c17 : (Jvm.Cond.code ({ cls := "java/lang/String", name := "checkIndex", desc := "(II)V" } : Jvm.MethodName) jdk_42_method_155_code (2 : Nat) (Option.none : Option Jvm.ClassFile.FieldType)).before args0 about1 = true := code_word (m := ⟨17, 5⟩) (meth := k17m5) (c := k17c5) (by decide +kernel) rfl rfl rfl (by decide +kernel)
theorem w_c18 : (Jvm.Cond.code ({ cls := "jdk/internal/util/Preconditions", name := "checkIndex", desc := "(IILjava/util/function/BiFunction;)I" } : Jvm.MethodName) jdk_41_method_11_code (3 : Nat) (Option.some Jvm.ClassFile.FieldType.int)).before args0 about1 = true := code_word (m := ⟨24, 1⟩) (meth := k24m1) (c := k24c1) (by decide +kernel) rfl rfl rfl (by decide +kernel)
theorem w_c19 : (Jvm.Cond.code ({ cls := "com/example/tributary/tributary/merge/Tree", name := "mix", desc := "(JJ)J" } : Jvm.MethodName) prog_45_method_4_code (7 : Nat) (Option.some Jvm.ClassFile.FieldType.long)).before args0 about1 = true := code_word (m := ⟨12, 2⟩) (meth := k12m2) (c := k12c2) (by decide +kernel) rfl rfl rfl (by decide +kernel)
theorem w_c20 : (Jvm.Cond.code ({ cls := "java/util/ArrayList", name := "iterator", desc := "()Ljava/util/Iterator;" } : Jvm.MethodName) jdk_38_method_55_code (1 : Nat) (Option.some (Jvm.ClassFile.FieldType.object "java/util/Iterator"))).before args0 about1 = true := code_word (m := ⟨11, 11⟩) (meth := k11m11) (c := k11c11) (by decide +kernel) rfl rfl rfl (by decide +kernel)
theorem w_c21 : (Jvm.Cond.code ({ cls := "java/util/ArrayList$Itr", name := "<init>", desc := "(Ljava/util/ArrayList;)V" } : Jvm.MethodName) jdk_49_method_1_code (2 : Nat) (Option.none : Option Jvm.ClassFile.FieldType)).before args0 about1 = true := code_word (m := ⟨26, 0⟩) (meth := k26m0) (c := k26c0) (by decide +kernel) rfl rfl rfl (by decide +kernel)
theorem w_c22 : (Jvm.Cond.code ({ cls := "java/util/ArrayList$Itr", name := "hasNext", desc := "()Z" } : Jvm.MethodName) jdk_49_method_2_code (1 : Nat) (Option.some Jvm.ClassFile.FieldType.boolean)).before args0 about1 = true := code_word (m := ⟨26, 1⟩) (meth := k26m1) (c := k26c1) (by decide +kernel) rfl rfl rfl (by decide +kernel)
theorem w_c23 : (Jvm.Cond.code ({ cls := "java/util/ArrayList", name := "add", desc := "(Ljava/lang/Object;)Z" } : Jvm.MethodName) jdk_38_method_25_code (2 : Nat) (Option.some Jvm.ClassFile.FieldType.boolean)).before args0 about1 = true := code_word (m := ⟨11, 8⟩) (meth := k11m8) (c := k11c8) (by decide +kernel) rfl rfl rfl (by decide +kernel)
theorem w_c24 : (Jvm.Cond.code ({ cls := "java/util/ArrayList", name := "add", desc := "(Ljava/lang/Object;[Ljava/lang/Object;I)V" } : Jvm.MethodName) jdk_38_method_24_code (4 : Nat) (Option.none : Option Jvm.ClassFile.FieldType)).before args0 about1 = true := code_word (m := ⟨11, 7⟩) (meth := k11m7) (c := k11c7) (by decide +kernel) rfl rfl rfl (by decide +kernel)
theorem w_c25 : (Jvm.Cond.code ({ cls := "java/util/ArrayList", name := "grow", desc := "()[Ljava/lang/Object;" } : Jvm.MethodName) jdk_38_method_7_code (1 : Nat) (Option.some (Jvm.ClassFile.FieldType.array (Jvm.ClassFile.FieldType.object "java/lang/Object")))).before args0 about1 = true := code_word (m := ⟨11, 3⟩) (meth := k11m3) (c := k11c3) (by decide +kernel) rfl rfl rfl (by decide +kernel)
theorem w_c26 : (Jvm.Cond.code ({ cls := "java/util/ArrayList", name := "grow", desc := "(I)[Ljava/lang/Object;" } : Jvm.MethodName) jdk_38_method_6_code (4 : Nat) (Option.some (Jvm.ClassFile.FieldType.array (Jvm.ClassFile.FieldType.object "java/lang/Object")))).before args0 about1 = true := code_word (m := ⟨11, 2⟩) (meth := k11m2) (c := k11c2) (by decide +kernel) rfl rfl rfl (by decide +kernel)
theorem w_c27 : (Jvm.Cond.code ({ cls := "java/lang/Math", name := "max", desc := "(II)I" } : Jvm.MethodName) jdk_29_method_65_code (2 : Nat) (Option.some Jvm.ClassFile.FieldType.int)).before args0 about1 = true := code_word (m := ⟨27, 1⟩) (meth := k27m1) (c := k27c1) (by decide +kernel) rfl rfl rfl (by decide +kernel)
theorem w_c28 : (Jvm.Cond.code ({ cls := "java/util/ArrayList", name := "toArray", desc := "()[Ljava/lang/Object;" } : Jvm.MethodName) jdk_38_method_16_code (1 : Nat) (Option.some (Jvm.ClassFile.FieldType.array (Jvm.ClassFile.FieldType.object "java/lang/Object")))).before args0 about1 = true := code_word (m := ⟨11, 6⟩) (meth := k11m6) (c := k11c6) (by decide +kernel) rfl rfl rfl (by decide +kernel)
theorem w_c29 : (Jvm.Cond.code ({ cls := "java/util/Arrays", name := "copyOf", desc := "([Ljava/lang/Object;I)[Ljava/lang/Object;" } : Jvm.MethodName) jdk_65_method_119_code (2 : Nat) (Option.some (Jvm.ClassFile.FieldType.array (Jvm.ClassFile.FieldType.object "java/lang/Object")))).before args0 about1 = true := code_word (m := ⟨28, 1⟩) (meth := k28m1) (c := k28c1) (by decide +kernel) rfl rfl rfl (by decide +kernel)
theorem w_c30 : (Jvm.Cond.code ({ cls := "java/util/Arrays", name := "copyOf", desc := "([Ljava/lang/Object;ILjava/lang/Class;)[Ljava/lang/Object;" } : Jvm.MethodName) jdk_65_method_120_code (4 : Nat) (Option.some (Jvm.ClassFile.FieldType.array (Jvm.ClassFile.FieldType.object "java/lang/Object")))).before args0 about1 = true := code_word (m := ⟨28, 2⟩) (meth := k28m2) (c := k28c2) (by decide +kernel) rfl rfl rfl (by decide +kernel)
theorem w_c31 : (Jvm.Cond.code ({ cls := "java/lang/Math", name := "min", desc := "(II)I" } : Jvm.MethodName) jdk_29_method_69_code (2 : Nat) (Option.some Jvm.ClassFile.FieldType.int)).before args0 about1 = true := code_word (m := ⟨27, 2⟩) (meth := k27m2) (c := k27c2) (by decide +kernel) rfl rfl rfl (by decide +kernel)
theorem w_c32 : (Jvm.Cond.code ({ cls := "java/util/List", name := "of", desc := "([Ljava/lang/Object;)Ljava/util/List;" } : Jvm.MethodName) jdk_40_method_47_code (2 : Nat) (Option.some (Jvm.ClassFile.FieldType.object "java/util/List"))).before args0 about1 = true := code_word (m := ⟨6, 4⟩) (meth := k6m4) (c := k6c4) (by decide +kernel) rfl rfl rfl (by decide +kernel)
theorem w_c33 : (Jvm.Cond.code ({ cls := "java/util/ImmutableCollections", name := "listFromArray", desc := "([Ljava/lang/Object;)Ljava/util/List;" } : Jvm.MethodName) jdk_56_method_4_code (3 : Nat) (Option.some (Jvm.ClassFile.FieldType.object "java/util/List"))).before args0 about1 = true := code_word (m := ⟨18, 2⟩) (meth := k18m2) (c := k18c2) (by decide +kernel) rfl rfl rfl (by decide +kernel)
theorem w_c34 : (Jvm.Cond.code ({ cls := "java/util/Objects", name := "requireNonNull", desc := "(Ljava/lang/Object;)Ljava/lang/Object;" } : Jvm.MethodName) jdk_31_method_10_code (1 : Nat) (Option.some (Jvm.ClassFile.FieldType.object "java/lang/Object"))).before args0 about1 = true := code_word (m := ⟨30, 1⟩) (meth := k30m1) (c := k30c1) (by decide +kernel) rfl rfl rfl (by decide +kernel)
theorem w_c35 : (Jvm.Cond.code ({ cls := "java/util/ImmutableCollections$ListN", name := "<init>", desc := "([Ljava/lang/Object;Z)V" } : Jvm.MethodName) jdk_45_method_1_code (3 : Nat) (Option.none : Option Jvm.ClassFile.FieldType)).before args0 about1 = true := code_word (m := ⟨22, 0⟩) (meth := k22m0) (c := k22c0) (by decide +kernel) rfl rfl rfl (by decide +kernel)
theorem w_c36 : (Jvm.Cond.code ({ cls := "java/util/ImmutableCollections$AbstractImmutableList", name := "<init>", desc := "()V" } : Jvm.MethodName) jdk_46_method_1_code (1 : Nat) (Option.none : Option Jvm.ClassFile.FieldType)).before args0 about1 = true := code_word (m := ⟨20, 0⟩) (meth := k20m0) (c := k20c0) (by decide +kernel) rfl rfl rfl (by decide +kernel)
theorem w_c37 : (Jvm.Cond.code ({ cls := "java/util/ImmutableCollections$AbstractImmutableCollection", name := "<init>", desc := "()V" } : Jvm.MethodName) jdk_47_method_1_code (1 : Nat) (Option.none : Option Jvm.ClassFile.FieldType)).before args0 about1 = true := code_word (m := ⟨19, 0⟩) (meth := k19m0) (c := k19c0) (by decide +kernel) rfl rfl rfl (by decide +kernel)
theorem w_c38 : (Jvm.Cond.code ({ cls := "java/util/ArrayList$Itr", name := "next", desc := "()Ljava/lang/Object;" } : Jvm.MethodName) jdk_49_method_3_code (3 : Nat) (Option.some (Jvm.ClassFile.FieldType.object "java/lang/Object"))).before args0 about1 = true := code_word (m := ⟨26, 2⟩) (meth := k26m2) (c := k26c2) (by decide +kernel) rfl rfl rfl (by decide +kernel)
theorem w_c39 : (Jvm.Cond.code ({ cls := "java/util/ArrayList$Itr", name := "checkForComodification", desc := "()V" } : Jvm.MethodName) jdk_49_method_6_code (1 : Nat) (Option.none : Option Jvm.ClassFile.FieldType)).before args0 about1 = true := code_word (m := ⟨26, 3⟩) (meth := k26m3) (c := k26c3) (by decide +kernel) rfl rfl rfl (by decide +kernel)
theorem w_c40 : (Jvm.Cond.code ({ cls := "com/example/tributary/tributary/merge/Tree", name := "index", desc := "(Lcom/example/tributary/tributary/merge/Tree;)Ljava/util/List;" } : Jvm.MethodName) prog_45_method_5_code (5 : Nat) (Option.some (Jvm.ClassFile.FieldType.object "java/util/List"))).before args0 about1 = true := code_word (m := ⟨12, 3⟩) (meth := k12m3) (c := k12c3) (by decide +kernel) rfl rfl rfl (by decide +kernel)
theorem w_c41 : (Jvm.Cond.code ({ cls := "java/util/ArrayList", name := "<init>", desc := "(I)V" } : Jvm.MethodName) jdk_38_method_1_code (2 : Nat) (Option.none : Option Jvm.ClassFile.FieldType)).before args0 about1 = true := code_word (m := ⟨11, 0⟩) (meth := k11m0) (c := k11c0) (by decide +kernel) rfl rfl rfl (by decide +kernel)
theorem w_c42 : (Jvm.Cond.code ({ cls := "java/util/ArrayList", name := "size", desc := "()I" } : Jvm.MethodName) jdk_38_method_8_code (1 : Nat) (Option.some Jvm.ClassFile.FieldType.int)).before args0 about1 = true := code_word (m := ⟨11, 4⟩) (meth := k11m4) (c := k11c4) (by decide +kernel) rfl rfl rfl (by decide +kernel)
theorem w_c43 : (Jvm.Cond.code ({ cls := "java/util/ArrayList", name := "remove", desc := "(I)Ljava/lang/Object;" } : Jvm.MethodName) jdk_38_method_29_code (4 : Nat) (Option.some (Jvm.ClassFile.FieldType.object "java/lang/Object"))).before args0 about1 = true := code_word (m := ⟨11, 9⟩) (meth := k11m9) (c := k11c9) (by decide +kernel) rfl rfl rfl (by decide +kernel)
theorem w_c44 : (Jvm.Cond.code ({ cls := "java/util/Objects", name := "checkIndex", desc := "(II)I" } : Jvm.MethodName) jdk_31_method_17_code (2 : Nat) (Option.some Jvm.ClassFile.FieldType.int)).before args0 about1 = true := code_word (m := ⟨30, 2⟩) (meth := k30m2) (c := k30c2) (by decide +kernel) rfl rfl rfl (by decide +kernel)
theorem w_c45 : (Jvm.Cond.code ({ cls := "java/util/ArrayList", name := "fastRemove", desc := "([Ljava/lang/Object;I)V" } : Jvm.MethodName) jdk_38_method_39_code (4 : Nat) (Option.none : Option Jvm.ClassFile.FieldType)).before args0 about1 = true := code_word (m := ⟨11, 10⟩) (meth := k11m10) (c := k11c10) (by decide +kernel) rfl rfl rfl (by decide +kernel)
theorem w_c46 : (Jvm.Cond.code ({ cls := "java/util/ImmutableCollections$ListN", name := "size", desc := "()I" } : Jvm.MethodName) jdk_45_method_3_code (1 : Nat) (Option.some Jvm.ClassFile.FieldType.int)).before args0 about1 = true := code_word (m := ⟨22, 1⟩) (meth := k22m1) (c := k22c1) (by decide +kernel) rfl rfl rfl (by decide +kernel)
theorem w_c47 : (Jvm.Cond.code ({ cls := "java/util/ImmutableCollections$ListN", name := "get", desc := "(I)Ljava/lang/Object;" } : Jvm.MethodName) jdk_45_method_4_code (2 : Nat) (Option.some (Jvm.ClassFile.FieldType.object "java/lang/Object"))).before args0 about1 = true := code_word (m := ⟨22, 2⟩) (meth := k22m2) (c := k22c2) (by decide +kernel) rfl rfl rfl (by decide +kernel)
theorem w_c48 : (Jvm.Cond.code ({ cls := "com/example/tributary/tributary/merge/Tree", name := "contains", desc := "(Lcom/example/tributary/tributary/merge/Tree;)Z" } : Jvm.MethodName) prog_45_method_26_code (2 : Nat) (Option.some Jvm.ClassFile.FieldType.boolean)).before args0 about1 = true := code_word (m := ⟨12, 4⟩) (meth := k12m4) (c := k12c4) (by decide +kernel) rfl rfl rfl (by decide +kernel)
theorem w_c49 : (Jvm.Cond.code ({ cls := "com/example/tributary/tributary/merge/TreeContainsPinLaw", name := "anc", desc := "(II[I)Z" } : Jvm.MethodName) method_3_code (6 : Nat) (Option.some Jvm.ClassFile.FieldType.boolean)).before args0 about1 = true := code_word (m := ⟨1, 2⟩) (meth := k1m2) (c := k1c2) (by decide +kernel) rfl rfl rfl (by decide +kernel)
theorem w_c50 : (Jvm.Cond.code ({ cls := "java/util/ImmutableCollections$List12", name := "<init>", desc := "(Ljava/lang/Object;)V" } : Jvm.MethodName) jdk_44_method_1_code (2 : Nat) (Option.none : Option Jvm.ClassFile.FieldType)).before args0 about1 = true := code_word (m := ⟨21, 0⟩) (meth := k21m0) (c := k21c0) (by decide +kernel) rfl rfl rfl (by decide +kernel)
theorem w_c51 : (Jvm.Cond.code ({ cls := "java/util/ImmutableCollections$List12", name := "<init>", desc := "(Ljava/lang/Object;Ljava/lang/Object;)V" } : Jvm.MethodName) jdk_44_method_2_code (3 : Nat) (Option.none : Option Jvm.ClassFile.FieldType)).before args0 about1 = true := code_word (m := ⟨21, 1⟩) (meth := k21m1) (c := k21c1) (by decide +kernel) rfl rfl rfl (by decide +kernel)
theorem w_c52 : (Jvm.Cond.code ({ cls := "java/util/ImmutableCollections$List12", name := "size", desc := "()I" } : Jvm.MethodName) jdk_44_method_3_code (1 : Nat) (Option.some Jvm.ClassFile.FieldType.int)).before args0 about1 = true := code_word (m := ⟨21, 2⟩) (meth := k21m2) (c := k21c2) (by decide +kernel) rfl rfl rfl (by decide +kernel)
theorem w_c53 : (Jvm.Cond.code ({ cls := "java/util/ImmutableCollections$List12", name := "get", desc := "(I)Ljava/lang/Object;" } : Jvm.MethodName) jdk_44_method_5_code (2 : Nat) (Option.some (Jvm.ClassFile.FieldType.object "java/lang/Object"))).before args0 about1 = true := code_word (m := ⟨21, 3⟩) (meth := k21m3) (c := k21c3) (by decide +kernel) rfl rfl rfl (by decide +kernel)
def codes1 : List Jvm.Cond := [Jvm.Cond.code x code maxLocals ret, Jvm.Cond.code ({ cls := "java/util/ArrayList", name := "<init>", desc := "()V" } : Jvm.MethodName) jdk_38_method_2_code (1 : Nat) (Option.none : Option Jvm.ClassFile.FieldType), Jvm.Cond.code ({ cls := "java/util/AbstractList", name := "<init>", desc := "()V" } : Jvm.MethodName) jdk_39_method_1_code (1 : Nat) (Option.none : Option Jvm.ClassFile.FieldType), Jvm.Cond.code ({ cls := "java/util/AbstractCollection", name := "<init>", desc := "()V" } : Jvm.MethodName) jdk_22_method_1_code (1 : Nat) (Option.none : Option Jvm.ClassFile.FieldType), Jvm.Cond.code ({ cls := "java/lang/Object", name := "<init>", desc := "()V" } : Jvm.MethodName) object_method_1_code (1 : Nat) (Option.none : Option Jvm.ClassFile.FieldType), Jvm.Cond.code ({ cls := "com/example/tributary/tributary/merge/TreeContainsPinLaw", name := "node", desc := "(Ljava/util/ArrayList;)Lcom/example/tributary/tributary/merge/Tree;" } : Jvm.MethodName) method_2_code (1 : Nat) (Option.some (Jvm.ClassFile.FieldType.object "com/example/tributary/tributary/merge/Tree")), Jvm.Cond.code ({ cls := "com/example/tributary/tributary/merge/Tree", name := "<init>", desc := "(Ljava/lang/String;Ljava/lang/String;Lcom/example/tributary/tributary/merge/Symbol;Ljava/lang/String;Ljava/lang/String;Ljava/util/List;Ljava/util/List;ZZLcom/example/tributary/tributary/merge/Code;IILjava/util/List;J)V" } : Jvm.MethodName) prog_45_method_1_code (22 : Nat) (Option.none : Option Jvm.ClassFile.FieldType), Jvm.Cond.code ({ cls := "java/util/List", name := "copyOf", desc := "(Ljava/util/Collection;)Ljava/util/List;" } : Jvm.MethodName) jdk_40_method_48_code (1 : Nat) (Option.some (Jvm.ClassFile.FieldType.object "java/util/List")), Jvm.Cond.code ({ cls := "java/util/ImmutableCollections", name := "listCopy", desc := "(Ljava/util/Collection;)Ljava/util/List;" } : Jvm.MethodName) jdk_56_method_3_code (2 : Nat) (Option.some (Jvm.ClassFile.FieldType.object "java/util/List")), Jvm.Cond.code ({ cls := "java/util/ArrayList", name := "isEmpty", desc := "()Z" } : Jvm.MethodName) jdk_38_method_9_code (1 : Nat) (Option.some Jvm.ClassFile.FieldType.boolean), Jvm.Cond.code ({ cls := "java/util/List", name := "of", desc := "()Ljava/util/List;" } : Jvm.MethodName) jdk_40_method_36_code (0 : Nat) (Option.some (Jvm.ClassFile.FieldType.object "java/util/List")), Jvm.Cond.code ({ cls := "com/example/tributary/tributary/merge/Tree", name := "mix", desc := "(JLjava/lang/String;)J" } : Jvm.MethodName) prog_45_method_2_code (6 : Nat) (Option.some Jvm.ClassFile.FieldType.long), Jvm.Cond.code ({ cls := "java/lang/String", name := "length", desc := "()I" } : Jvm.MethodName) jdk_42_method_54_code (1 : Nat) (Option.some Jvm.ClassFile.FieldType.int), Jvm.Cond.code ({ cls := "java/lang/String", name := "coder", desc := "()B" } : Jvm.MethodName) jdk_42_method_152_code (1 : Nat) (Option.some Jvm.ClassFile.FieldType.byte), Jvm.Cond.code ({ cls := "java/lang/String", name := "charAt", desc := "(I)C" } : Jvm.MethodName) jdk_42_method_56_code (2 : Nat) (Option.some Jvm.ClassFile.FieldType.char), Jvm.Cond.code ({ cls := "java/lang/String", name := "isLatin1", desc := "()Z" } : Jvm.MethodName) jdk_42_method_154_code (1 : Nat) (Option.some Jvm.ClassFile.FieldType.boolean), Jvm.Cond.code ({ cls := "java/lang/StringLatin1", name := "charAt", desc := "([BI)C" } : Jvm.MethodName) jdk_43_method_2_code (2 : Nat) (Option.some Jvm.ClassFile.FieldType.char), Jvm.Cond.code ({ cls := "java/lang/String", name := "checkIndex", desc := "(II)V" } : Jvm.MethodName) jdk_42_method_155_code (2 : Nat) (Option.none : Option Jvm.ClassFile.FieldType), Jvm.Cond.code ({ cls := "jdk/internal/util/Preconditions", name := "checkIndex", desc := "(IILjava/util/function/BiFunction;)I" } : Jvm.MethodName) jdk_41_method_11_code (3 : Nat) (Option.some Jvm.ClassFile.FieldType.int), Jvm.Cond.code ({ cls := "com/example/tributary/tributary/merge/Tree", name := "mix", desc := "(JJ)J" } : Jvm.MethodName) prog_45_method_4_code (7 : Nat) (Option.some Jvm.ClassFile.FieldType.long), Jvm.Cond.code ({ cls := "java/util/ArrayList", name := "iterator", desc := "()Ljava/util/Iterator;" } : Jvm.MethodName) jdk_38_method_55_code (1 : Nat) (Option.some (Jvm.ClassFile.FieldType.object "java/util/Iterator")), Jvm.Cond.code ({ cls := "java/util/ArrayList$Itr", name := "<init>", desc := "(Ljava/util/ArrayList;)V" } : Jvm.MethodName) jdk_49_method_1_code (2 : Nat) (Option.none : Option Jvm.ClassFile.FieldType), Jvm.Cond.code ({ cls := "java/util/ArrayList$Itr", name := "hasNext", desc := "()Z" } : Jvm.MethodName) jdk_49_method_2_code (1 : Nat) (Option.some Jvm.ClassFile.FieldType.boolean), Jvm.Cond.code ({ cls := "java/util/ArrayList", name := "add", desc := "(Ljava/lang/Object;)Z" } : Jvm.MethodName) jdk_38_method_25_code (2 : Nat) (Option.some Jvm.ClassFile.FieldType.boolean), Jvm.Cond.code ({ cls := "java/util/ArrayList", name := "add", desc := "(Ljava/lang/Object;[Ljava/lang/Object;I)V" } : Jvm.MethodName) jdk_38_method_24_code (4 : Nat) (Option.none : Option Jvm.ClassFile.FieldType), Jvm.Cond.code ({ cls := "java/util/ArrayList", name := "grow", desc := "()[Ljava/lang/Object;" } : Jvm.MethodName) jdk_38_method_7_code (1 : Nat) (Option.some (Jvm.ClassFile.FieldType.array (Jvm.ClassFile.FieldType.object "java/lang/Object"))), Jvm.Cond.code ({ cls := "java/util/ArrayList", name := "grow", desc := "(I)[Ljava/lang/Object;" } : Jvm.MethodName) jdk_38_method_6_code (4 : Nat) (Option.some (Jvm.ClassFile.FieldType.array (Jvm.ClassFile.FieldType.object "java/lang/Object"))), Jvm.Cond.code ({ cls := "java/lang/Math", name := "max", desc := "(II)I" } : Jvm.MethodName) jdk_29_method_65_code (2 : Nat) (Option.some Jvm.ClassFile.FieldType.int), Jvm.Cond.code ({ cls := "java/util/ArrayList", name := "toArray", desc := "()[Ljava/lang/Object;" } : Jvm.MethodName) jdk_38_method_16_code (1 : Nat) (Option.some (Jvm.ClassFile.FieldType.array (Jvm.ClassFile.FieldType.object "java/lang/Object"))), Jvm.Cond.code ({ cls := "java/util/Arrays", name := "copyOf", desc := "([Ljava/lang/Object;I)[Ljava/lang/Object;" } : Jvm.MethodName) jdk_65_method_119_code (2 : Nat) (Option.some (Jvm.ClassFile.FieldType.array (Jvm.ClassFile.FieldType.object "java/lang/Object"))), Jvm.Cond.code ({ cls := "java/util/Arrays", name := "copyOf", desc := "([Ljava/lang/Object;ILjava/lang/Class;)[Ljava/lang/Object;" } : Jvm.MethodName) jdk_65_method_120_code (4 : Nat) (Option.some (Jvm.ClassFile.FieldType.array (Jvm.ClassFile.FieldType.object "java/lang/Object"))), Jvm.Cond.code ({ cls := "java/lang/Math", name := "min", desc := "(II)I" } : Jvm.MethodName) jdk_29_method_69_code (2 : Nat) (Option.some Jvm.ClassFile.FieldType.int), Jvm.Cond.code ({ cls := "java/util/List", name := "of", desc := "([Ljava/lang/Object;)Ljava/util/List;" } : Jvm.MethodName) jdk_40_method_47_code (2 : Nat) (Option.some (Jvm.ClassFile.FieldType.object "java/util/List")), Jvm.Cond.code ({ cls := "java/util/ImmutableCollections", name := "listFromArray", desc := "([Ljava/lang/Object;)Ljava/util/List;" } : Jvm.MethodName) jdk_56_method_4_code (3 : Nat) (Option.some (Jvm.ClassFile.FieldType.object "java/util/List")), Jvm.Cond.code ({ cls := "java/util/Objects", name := "requireNonNull", desc := "(Ljava/lang/Object;)Ljava/lang/Object;" } : Jvm.MethodName) jdk_31_method_10_code (1 : Nat) (Option.some (Jvm.ClassFile.FieldType.object "java/lang/Object")), Jvm.Cond.code ({ cls := "java/util/ImmutableCollections$ListN", name := "<init>", desc := "([Ljava/lang/Object;Z)V" } : Jvm.MethodName) jdk_45_method_1_code (3 : Nat) (Option.none : Option Jvm.ClassFile.FieldType), Jvm.Cond.code ({ cls := "java/util/ImmutableCollections$AbstractImmutableList", name := "<init>", desc := "()V" } : Jvm.MethodName) jdk_46_method_1_code (1 : Nat) (Option.none : Option Jvm.ClassFile.FieldType), Jvm.Cond.code ({ cls := "java/util/ImmutableCollections$AbstractImmutableCollection", name := "<init>", desc := "()V" } : Jvm.MethodName) jdk_47_method_1_code (1 : Nat) (Option.none : Option Jvm.ClassFile.FieldType), Jvm.Cond.code ({ cls := "java/util/ArrayList$Itr", name := "next", desc := "()Ljava/lang/Object;" } : Jvm.MethodName) jdk_49_method_3_code (3 : Nat) (Option.some (Jvm.ClassFile.FieldType.object "java/lang/Object")), Jvm.Cond.code ({ cls := "java/util/ArrayList$Itr", name := "checkForComodification", desc := "()V" } : Jvm.MethodName) jdk_49_method_6_code (1 : Nat) (Option.none : Option Jvm.ClassFile.FieldType), Jvm.Cond.code ({ cls := "com/example/tributary/tributary/merge/Tree", name := "index", desc := "(Lcom/example/tributary/tributary/merge/Tree;)Ljava/util/List;" } : Jvm.MethodName) prog_45_method_5_code (5 : Nat) (Option.some (Jvm.ClassFile.FieldType.object "java/util/List")), Jvm.Cond.code ({ cls := "java/util/ArrayList", name := "<init>", desc := "(I)V" } : Jvm.MethodName) jdk_38_method_1_code (2 : Nat) (Option.none : Option Jvm.ClassFile.FieldType), Jvm.Cond.code ({ cls := "java/util/ArrayList", name := "size", desc := "()I" } : Jvm.MethodName) jdk_38_method_8_code (1 : Nat) (Option.some Jvm.ClassFile.FieldType.int), Jvm.Cond.code ({ cls := "java/util/ArrayList", name := "remove", desc := "(I)Ljava/lang/Object;" } : Jvm.MethodName) jdk_38_method_29_code (4 : Nat) (Option.some (Jvm.ClassFile.FieldType.object "java/lang/Object")), Jvm.Cond.code ({ cls := "java/util/Objects", name := "checkIndex", desc := "(II)I" } : Jvm.MethodName) jdk_31_method_17_code (2 : Nat) (Option.some Jvm.ClassFile.FieldType.int), Jvm.Cond.code ({ cls := "java/util/ArrayList", name := "fastRemove", desc := "([Ljava/lang/Object;I)V" } : Jvm.MethodName) jdk_38_method_39_code (4 : Nat) (Option.none : Option Jvm.ClassFile.FieldType), Jvm.Cond.code ({ cls := "java/util/ImmutableCollections$ListN", name := "size", desc := "()I" } : Jvm.MethodName) jdk_45_method_3_code (1 : Nat) (Option.some Jvm.ClassFile.FieldType.int), Jvm.Cond.code ({ cls := "java/util/ImmutableCollections$ListN", name := "get", desc := "(I)Ljava/lang/Object;" } : Jvm.MethodName) jdk_45_method_4_code (2 : Nat) (Option.some (Jvm.ClassFile.FieldType.object "java/lang/Object")), Jvm.Cond.code ({ cls := "com/example/tributary/tributary/merge/Tree", name := "contains", desc := "(Lcom/example/tributary/tributary/merge/Tree;)Z" } : Jvm.MethodName) prog_45_method_26_code (2 : Nat) (Option.some Jvm.ClassFile.FieldType.boolean), Jvm.Cond.code ({ cls := "com/example/tributary/tributary/merge/TreeContainsPinLaw", name := "anc", desc := "(II[I)Z" } : Jvm.MethodName) method_3_code (6 : Nat) (Option.some Jvm.ClassFile.FieldType.boolean), Jvm.Cond.code ({ cls := "java/util/ImmutableCollections$List12", name := "<init>", desc := "(Ljava/lang/Object;)V" } : Jvm.MethodName) jdk_44_method_1_code (2 : Nat) (Option.none : Option Jvm.ClassFile.FieldType), Jvm.Cond.code ({ cls := "java/util/ImmutableCollections$List12", name := "<init>", desc := "(Ljava/lang/Object;Ljava/lang/Object;)V" } : Jvm.MethodName) jdk_44_method_2_code (3 : Nat) (Option.none : Option Jvm.ClassFile.FieldType), Jvm.Cond.code ({ cls := "java/util/ImmutableCollections$List12", name := "size", desc := "()I" } : Jvm.MethodName) jdk_44_method_3_code (1 : Nat) (Option.some Jvm.ClassFile.FieldType.int), Jvm.Cond.code ({ cls := "java/util/ImmutableCollections$List12", name := "get", desc := "(I)Ljava/lang/Object;" } : Jvm.MethodName) jdk_44_method_5_code (2 : Nat) (Option.some (Jvm.ClassFile.FieldType.object "java/lang/Object"))]
theorem codes_eq : words1.filter isCode = codes1 := rfl
theorem w_codes : ∀ c ∈ words1.filter isCode, c.before args0 about1 = true := by
  rw [codes_eq]
  intro c hc
  simp only [codes1, List.mem_cons, List.not_mem_nil, or_false] at hc
  rcases hc with rfl | rfl | rfl | rfl | rfl | rfl | rfl | rfl | rfl | rfl | rfl | rfl | rfl | rfl | rfl | rfl | rfl | rfl | rfl | rfl | rfl | rfl | rfl | rfl | rfl | rfl | rfl | rfl | rfl | rfl | rfl | rfl | rfl | rfl | rfl | rfl | rfl | rfl | rfl | rfl | rfl | rfl | rfl | rfl | rfl | rfl | rfl | rfl | rfl | rfl | rfl | rfl | rfl | rfl
  · exact w_c0
  · exact w_c1
  · exact w_c2
  · exact w_c3
  · exact w_c4
  · exact w_c5
  · exact w_c6
  · exact w_c7
  · exact w_c8
  · exact w_c9
  · exact w_c10
  · exact w_c11
  · exact w_c12
  · exact w_c13
  · exact w_c14
  · exact w_c15
  · exact w_c16
  · exact w_c17
  · exact w_c18
  · exact w_c19
  · exact w_c20
  · exact w_c21
  · exact w_c22
  · exact w_c23
  · exact w_c24
  · exact w_c25
  · exact w_c26
  · exact w_c27
  · exact w_c28
  · exact w_c29
  · exact w_c30
  · exact w_c31
  · exact w_c32
  · exact w_c33
  · exact w_c34
  · exact w_c35
  · exact w_c36
  · exact w_c37
  · exact w_c38
  · exact w_c39
  · exact w_c40
  · exact w_c41
  · exact w_c42
  · exact w_c43
  · exact w_c44
  · exact w_c45
  · exact w_c46
  · exact w_c47
  · exact w_c48
  · exact w_c49
  · exact w_c50
  · exact w_c51
  · exact w_c52
  · exact w_c53
theorem w_t1 : (words1.take 24).all (fun c => isCode c || c.before args0 about1) = true := by decide +kernel
theorem w_t2 : ((words1.drop 24).take 24).all (fun c => isCode c || c.before args0 about1) = true := by decide +kernel
theorem w_t3 : (((words1.drop 24).drop 24).take 24).all (fun c => isCode c || c.before args0 about1) = true := by decide +kernel
theorem w_t4 : ((((words1.drop 24).drop 24).drop 24).take 24).all (fun c => isCode c || c.before args0 about1) = true := by decide +kernel
theorem w_t5 : (((((words1.drop 24).drop 24).drop 24).drop 24).take 24).all (fun c => isCode c || c.before args0 about1) = true := by decide +kernel
theorem w_t6 : ((((((words1.drop 24).drop 24).drop 24).drop 24).drop 24).take 24).all (fun c => isCode c || c.before args0 about1) = true := by decide +kernel
theorem w_t7 : (((((((words1.drop 24).drop 24).drop 24).drop 24).drop 24).drop 24).take 24).all (fun c => isCode c || c.before args0 about1) = true := by decide +kernel
theorem w_t8 : ((((((((words1.drop 24).drop 24).drop 24).drop 24).drop 24).drop 24).drop 24).take 24).all (fun c => isCode c || c.before args0 about1) = true := by decide +kernel
theorem w_t9 : (((((((((words1.drop 24).drop 24).drop 24).drop 24).drop 24).drop 24).drop 24).drop 24).take 24).all (fun c => isCode c || c.before args0 about1) = true := by decide +kernel
theorem w_t10 : ((((((((((words1.drop 24).drop 24).drop 24).drop 24).drop 24).drop 24).drop 24).drop 24).drop 24).take 24).all (fun c => isCode c || c.before args0 about1) = true := by decide +kernel
theorem w_t11 : (((((((((((words1.drop 24).drop 24).drop 24).drop 24).drop 24).drop 24).drop 24).drop 24).drop 24).drop 24).take 24).all (fun c => isCode c || c.before args0 about1) = true := by decide +kernel
theorem w_t12 : ((((((((((((words1.drop 24).drop 24).drop 24).drop 24).drop 24).drop 24).drop 24).drop 24).drop 24).drop 24).drop 24).take 24).all (fun c => isCode c || c.before args0 about1) = true := by decide +kernel
theorem w_t13 : (((((((((((((words1.drop 24).drop 24).drop 24).drop 24).drop 24).drop 24).drop 24).drop 24).drop 24).drop 24).drop 24).drop 24).take 24).all (fun c => isCode c || c.before args0 about1) = true := by decide +kernel
theorem w_t14 : ((((((((((((((words1.drop 24).drop 24).drop 24).drop 24).drop 24).drop 24).drop 24).drop 24).drop 24).drop 24).drop 24).drop 24).drop 24).take 24).all (fun c => isCode c || c.before args0 about1) = true := by decide +kernel
theorem w_t15 : (((((((((((((((words1.drop 24).drop 24).drop 24).drop 24).drop 24).drop 24).drop 24).drop 24).drop 24).drop 24).drop 24).drop 24).drop 24).drop 24).take 24).all (fun c => isCode c || c.before args0 about1) = true := by decide +kernel
theorem w_t16 : ((((((((((((((((words1.drop 24).drop 24).drop 24).drop 24).drop 24).drop 24).drop 24).drop 24).drop 24).drop 24).drop 24).drop 24).drop 24).drop 24).drop 24).take 24).all (fun c => isCode c || c.before args0 about1) = true := by decide +kernel
theorem w_t17 : ((((((((((((((((words1.drop 24).drop 24).drop 24).drop 24).drop 24).drop 24).drop 24).drop 24).drop 24).drop 24).drop 24).drop 24).drop 24).drop 24).drop 24).drop 24).all (fun c => isCode c || c.before args0 about1) = true := by decide +kernel
theorem w_tables : (allAtoms (Jvm.Cond.code x code maxLocals ret :: tables_1)).before args0 about1 = true := by
  rw [allAtoms_all]
  show words1.all (fun c => c.before args0 about1) = true
  refine all_split ?_ w_codes
  rw [← List.take_append_drop 24 words1, List.all_append, w_t1, ← List.take_append_drop 24 (words1.drop 24), List.all_append, w_t2, ← List.take_append_drop 24 ((words1.drop 24).drop 24), List.all_append, w_t3, ← List.take_append_drop 24 (((words1.drop 24).drop 24).drop 24), List.all_append, w_t4, ← List.take_append_drop 24 ((((words1.drop 24).drop 24).drop 24).drop 24), List.all_append, w_t5, ← List.take_append_drop 24 (((((words1.drop 24).drop 24).drop 24).drop 24).drop 24), List.all_append, w_t6, ← List.take_append_drop 24 ((((((words1.drop 24).drop 24).drop 24).drop 24).drop 24).drop 24), List.all_append, w_t7, ← List.take_append_drop 24 (((((((words1.drop 24).drop 24).drop 24).drop 24).drop 24).drop 24).drop 24), List.all_append, w_t8, ← List.take_append_drop 24 ((((((((words1.drop 24).drop 24).drop 24).drop 24).drop 24).drop 24).drop 24).drop 24), List.all_append, w_t9, ← List.take_append_drop 24 (((((((((words1.drop 24).drop 24).drop 24).drop 24).drop 24).drop 24).drop 24).drop 24).drop 24), List.all_append, w_t10, ← List.take_append_drop 24 ((((((((((words1.drop 24).drop 24).drop 24).drop 24).drop 24).drop 24).drop 24).drop 24).drop 24).drop 24), List.all_append, w_t11, ← List.take_append_drop 24 (((((((((((words1.drop 24).drop 24).drop 24).drop 24).drop 24).drop 24).drop 24).drop 24).drop 24).drop 24).drop 24), List.all_append, w_t12, ← List.take_append_drop 24 ((((((((((((words1.drop 24).drop 24).drop 24).drop 24).drop 24).drop 24).drop 24).drop 24).drop 24).drop 24).drop 24).drop 24), List.all_append, w_t13, ← List.take_append_drop 24 (((((((((((((words1.drop 24).drop 24).drop 24).drop 24).drop 24).drop 24).drop 24).drop 24).drop 24).drop 24).drop 24).drop 24).drop 24), List.all_append, w_t14, ← List.take_append_drop 24 ((((((((((((((words1.drop 24).drop 24).drop 24).drop 24).drop 24).drop 24).drop 24).drop 24).drop 24).drop 24).drop 24).drop 24).drop 24).drop 24), List.all_append, w_t15, ← List.take_append_drop 24 (((((((((((((((words1.drop 24).drop 24).drop 24).drop 24).drop 24).drop 24).drop 24).drop 24).drop 24).drop 24).drop 24).drop 24).drop 24).drop 24).drop 24), List.all_append, w_t16, w_t17]
  rfl
theorem w_rest : rest_1_c.before args0 about1 = true := by decide +kernel
theorem w_case : (Jvm.Cond.and given_1 narrow_1).before args0 about1 = true := by decide +kernel
theorem w_consts : constsHeld consts_1 about1 := Jvm.Lit.constsHeldB_iff.mp (by decide +kernel)
theorem w_applies : (headSpec (Jvm.Cond.code x code maxLocals ret :: tables_1) room_1).applies x e0.platform about1 = true :=
  (Spec.applies_iff w_frames).mpr ⟨w_running, w_runnable, w_alone, w_named, w_hears, w_ripe, w_room, w_tables⟩
theorem atStart : AtStart classFile x code maxLocals ret World_1 tables_1 room_1 Calls_1 rest_1 Pre_1 launch0 p0 e0 about1 theMethod args0 below0 :=
  ⟨lists_1, trivial, launch0.admits_env _ _ _, launch0.least_env, fairChoices_fair.cas, fairChoices_fair.clock, w_frames, w_args, w_heap, w_applies, ⟨⟨38, k38, 4, by decide +kernel, rfl, rfl, _, rfl, rfl⟩, ⟨w_consts, trivial⟩⟩, w_rest, w_case⟩
end start1
theorem witness_1 : WitnessClaimed_1 := ⟨start1.p0, start1.e0, start1.about1, start1.theMethod, start1.args0, start1.below0, start1.atStart⟩
end Jvm.Pilot.@@N@@
