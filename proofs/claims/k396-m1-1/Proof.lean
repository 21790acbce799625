import JvmDerived
import JvmDerived.Pilot.@@N@@Statement
import JvmDerived.Pilot.@@N@@Code
set_option linter.unusedVariables false
set_option linter.unusedSimpArgs false
namespace Jvm.RoadKit
open Sem ClassFile Op Lib Jvm.Stand Jvm.Free Jvm.LawKit
section New
variable {p : Program} {l : Launch} {e : Env} {R : Room} {s : State} {m : MethodId} {args : Array Value} {below : List Frame} {meth : Method} {c : Code} {T : State} {locs : List Loc} {cells slots : Nat}
theorem retI (X : Stand p l e R s m args below meth c T locs cells slots) (hx : p.tables.exec = Jvm.exec) {pc : Nat} {Ls : Array Slot} {z : Int32} {rest : List Value} (hret : meth.sig.returnType = some .int) (hd : decode c.code pc = .ok (.ireturn, 1)) {fs : List Frame}
    (hl : ∀ (f : JFrame) (acts : List Action), f.method = m → f.locked = none → f.entered = [] → (doReturn e (T.setTop f) acts (some (.int z))).1 = T.setFrames fs) : Steps p.tables e below (T.setTop (mkF m pc Ls (.int z :: rest))) (T.setFrames fs) := by
  have hm' : T.vm.method? m = some meth := X.method'
  have hn : narrow .int (.int z) = .int z := rfl
  show Steps p.tables e below (T.setTop { method := m, pc := pc, locals := Ls, stack := _ :: rest, locked := none }) _
  jvm_step X.here [X.here.top, hx, hd, hm', hret, hn]
  first | (intro acts; rw [hl _ acts rfl rfl rfl]) | rw [hl _ _ rfl rfl rfl]
  exact Steps.refl _
end New
end Jvm.RoadKit
namespace Jvm.Pilot.@@N@@
open Jvm Jvm.ClassFile Sem Op Lib Jvm.Free Jvm.Stand Jvm.LawKit Jvm.RoadKit Bundle Jvm.Pilot.@@N@@.Jvm.D
theorem own_irem (x y : Int32) : x - (x / y) * y = x % y := by
  apply Int32.toInt_inj.mp
  have a := (x % y).toInt_lt; have b := (x % y).le_toInt
  rw [Int32.toInt_mod] at a b ⊢
  rw [Int32.toInt_sub, Int32.toInt_mul, Int32.toInt_div, Int.bmod_mul_bmod, Int.sub_bmod_bmod, Int.mul_comm, ← Int.tmod_def]
  exact Int.bmod_eq_of_le (by omega) (by omega)
theorem own_ns_exa {Z : State} {h : Heap} {a : Addr} {C : String} (F : Exa Z h a C) : ∀ c : Cell, h[a]? = some c → c.vm.isStatics = false := fun c hc => by
  obtain ⟨cell, k, h1, -, -, h4, -⟩ := F
  cases h1.symm.trans hc; exact h4
theorem own_sta_keep {Z : State} {h h' : Heap} {C n d : String} {v : Value} {ws : List Addr} (F : Sta Z h C n d v) (K : Keep h h' ws) (q : ∀ x ∈ ws, ∀ c : Cell, h[x]? = some c → c.vm.isStatics = false) : Sta Z h' C n d v := by
  obtain ⟨cf, i, k, f, st, cell, h1, h2, h3, h4, h5, h6, h7⟩ := F
  refine ⟨cf, i, k, f, st, cell, h1, h2, h3, h4, K.2.1 st cell h5 (fun hm => ?_), h6, h7⟩
  rw [q st hm cell h5] at h6; cases h6
def own_nar (ss bi dr sp fr : Int32) (sg : Int64) (e : Int32) (f : Int64) : Int64 :=
  if e = 2047 then ((sg ||| (sp.toInt64 <<< (fr.toInt64 &&& 63))) ||| XT.ushrL f dr)
  else if e = 0 then sg
  else if bi < e - 1023 then (sg ||| (sp.toInt64 <<< (fr.toInt64 &&& 63)))
  else if e - 1023 < 1 - bi then (if dr + (1 - bi - (e - 1023)) < 64 then (sg ||| XT.ushrL (4503599627370496 ||| f) (dr + (1 - bi - (e - 1023)))) else sg)
  else ((sg ||| ((e - 1023 + bi).toInt64 <<< (fr.toInt64 &&& 63))) ||| XT.ushrL f dr)
def own_exp (dr rb tp inf sub : Int32) (sg : Int64) (e : Int32) (f mg : Int64) : Int64 :=
  if e = 2047 then (sg ||| XT.ushrL ((tp.toInt64 <<< ((52 : Int32).toInt64 &&& 63)) ||| f) dr)
  else if e = 0 then sg
  else if e < inf then (if rb < e then (sg ||| XT.ushrL (mg - (rb.toInt64 <<< ((52 : Int32).toInt64 &&& 63))) dr) else if sub - e < 64 then (sg ||| XT.ushrL (4503599627370496 ||| f) (sub - e)) else sg)
  else (sg ||| XT.ushrL (tp.toInt64 <<< ((52 : Int32).toInt64 &&& 63)) dr)
theorem dna_0 : decode prog_23_method_8_code 0 = .ok (.aload_n 0, 1) := by decide +kernel
theorem dna_1 : decode prog_23_method_8_code 1 = .ok (.getstatic 10, 3) := by decide +kernel
theorem dna_4 : decode prog_23_method_8_code 4 = .ok (.if_acmp .ne 5, 3) := by decide +kernel
theorem dna_9 : decode prog_23_method_8_code 9 = .ok (.lload_n 1, 1) := by decide +kernel
theorem dna_10 : decode prog_23_method_8_code 10 = .ok (.bipush 63, 2) := by decide +kernel
theorem dna_12 : decode prog_23_method_8_code 12 = .ok (.lushr, 1) := by decide +kernel
theorem dna_13 : decode prog_23_method_8_code 13 = .ok (.aload_n 0, 1) := by decide +kernel
theorem dna_14 : decode prog_23_method_8_code 14 = .ok (.getfield 39, 3) := by decide +kernel
theorem dna_17 : decode prog_23_method_8_code 17 = .ok (.lshl, 1) := by decide +kernel
theorem dna_18 : decode prog_23_method_8_code 18 = .ok (.lstore_n 3, 1) := by decide +kernel
theorem dna_19 : decode prog_23_method_8_code 19 = .ok (.lload_n 1, 1) := by decide +kernel
theorem dna_20 : decode prog_23_method_8_code 20 = .ok (.bipush 52, 2) := by decide +kernel
theorem dna_22 : decode prog_23_method_8_code 22 = .ok (.lushr, 1) := by decide +kernel
theorem dna_23 : decode prog_23_method_8_code 23 = .ok (.l2i, 1) := by decide +kernel
theorem dna_24 : decode prog_23_method_8_code 24 = .ok (.sipush 2047, 3) := by decide +kernel
theorem dna_27 : decode prog_23_method_8_code 27 = .ok (.iand, 1) := by decide +kernel
theorem dna_28 : decode prog_23_method_8_code 28 = .ok (.istore 5, 2) := by decide +kernel
theorem dna_30 : decode prog_23_method_8_code 30 = .ok (.lload_n 1, 1) := by decide +kernel
theorem dna_31 : decode prog_23_method_8_code 31 = .ok (.ldc2_w 75, 3) := by decide +kernel
theorem dna_34 : decode prog_23_method_8_code 34 = .ok (.land, 1) := by decide +kernel
theorem dna_35 : decode prog_23_method_8_code 35 = .ok (.lstore 6, 2) := by decide +kernel
theorem dna_37 : decode prog_23_method_8_code 37 = .ok (.iload 5, 2) := by decide +kernel
theorem dna_39 : decode prog_23_method_8_code 39 = .ok (.sipush 2047, 3) := by decide +kernel
theorem dna_42 : decode prog_23_method_8_code 42 = .ok (.if_icmp .ne 24, 3) := by decide +kernel
theorem dna_45 : decode prog_23_method_8_code 45 = .ok (.lload_n 3, 1) := by decide +kernel
theorem dna_46 : decode prog_23_method_8_code 46 = .ok (.aload_n 0, 1) := by decide +kernel
theorem dna_47 : decode prog_23_method_8_code 47 = .ok (.getfield 45, 3) := by decide +kernel
theorem dna_50 : decode prog_23_method_8_code 50 = .ok (.i2l, 1) := by decide +kernel
theorem dna_51 : decode prog_23_method_8_code 51 = .ok (.aload_n 0, 1) := by decide +kernel
theorem dna_52 : decode prog_23_method_8_code 52 = .ok (.getfield 36, 3) := by decide +kernel
theorem dna_55 : decode prog_23_method_8_code 55 = .ok (.lshl, 1) := by decide +kernel
theorem dna_56 : decode prog_23_method_8_code 56 = .ok (.lor, 1) := by decide +kernel
theorem dna_57 : decode prog_23_method_8_code 57 = .ok (.lload 6, 2) := by decide +kernel
theorem dna_59 : decode prog_23_method_8_code 59 = .ok (.aload_n 0, 1) := by decide +kernel
theorem dna_60 : decode prog_23_method_8_code 60 = .ok (.getfield 48, 3) := by decide +kernel
theorem dna_63 : decode prog_23_method_8_code 63 = .ok (.lushr, 1) := by decide +kernel
theorem dna_64 : decode prog_23_method_8_code 64 = .ok (.lor, 1) := by decide +kernel
theorem dna_65 : decode prog_23_method_8_code 65 = .ok (.lreturn, 1) := by decide +kernel
theorem dna_66 : decode prog_23_method_8_code 66 = .ok (.iload 5, 2) := by decide +kernel
theorem dna_68 : decode prog_23_method_8_code 68 = .ok (.ifCond .ne 5, 3) := by decide +kernel
theorem dna_71 : decode prog_23_method_8_code 71 = .ok (.lload_n 3, 1) := by decide +kernel
theorem dna_72 : decode prog_23_method_8_code 72 = .ok (.lreturn, 1) := by decide +kernel
theorem dna_73 : decode prog_23_method_8_code 73 = .ok (.iload 5, 2) := by decide +kernel
theorem dna_75 : decode prog_23_method_8_code 75 = .ok (.sipush 1023, 3) := by decide +kernel
theorem dna_78 : decode prog_23_method_8_code 78 = .ok (.isub, 1) := by decide +kernel
theorem dna_79 : decode prog_23_method_8_code 79 = .ok (.istore 8, 2) := by decide +kernel
theorem dna_81 : decode prog_23_method_8_code 81 = .ok (.iload 8, 2) := by decide +kernel
theorem dna_83 : decode prog_23_method_8_code 83 = .ok (.aload_n 0, 1) := by decide +kernel
theorem dna_84 : decode prog_23_method_8_code 84 = .ok (.getfield 42, 3) := by decide +kernel
theorem dna_87 : decode prog_23_method_8_code 87 = .ok (.if_icmp .le 16, 3) := by decide +kernel
theorem dna_90 : decode prog_23_method_8_code 90 = .ok (.lload_n 3, 1) := by decide +kernel
theorem dna_91 : decode prog_23_method_8_code 91 = .ok (.aload_n 0, 1) := by decide +kernel
theorem dna_92 : decode prog_23_method_8_code 92 = .ok (.getfield 45, 3) := by decide +kernel
theorem dna_95 : decode prog_23_method_8_code 95 = .ok (.i2l, 1) := by decide +kernel
theorem dna_96 : decode prog_23_method_8_code 96 = .ok (.aload_n 0, 1) := by decide +kernel
theorem dna_97 : decode prog_23_method_8_code 97 = .ok (.getfield 36, 3) := by decide +kernel
theorem dna_100 : decode prog_23_method_8_code 100 = .ok (.lshl, 1) := by decide +kernel
theorem dna_101 : decode prog_23_method_8_code 101 = .ok (.lor, 1) := by decide +kernel
theorem dna_102 : decode prog_23_method_8_code 102 = .ok (.lreturn, 1) := by decide +kernel
theorem dna_103 : decode prog_23_method_8_code 103 = .ok (.iload 8, 2) := by decide +kernel
theorem dna_105 : decode prog_23_method_8_code 105 = .ok (.iconst 1, 1) := by decide +kernel
theorem dna_106 : decode prog_23_method_8_code 106 = .ok (.aload_n 0, 1) := by decide +kernel
theorem dna_107 : decode prog_23_method_8_code 107 = .ok (.getfield 42, 3) := by decide +kernel
theorem dna_110 : decode prog_23_method_8_code 110 = .ok (.isub, 1) := by decide +kernel
theorem dna_111 : decode prog_23_method_8_code 111 = .ok (.if_icmp .lt 27, 3) := by decide +kernel
theorem dna_114 : decode prog_23_method_8_code 114 = .ok (.lload_n 3, 1) := by decide +kernel
theorem dna_115 : decode prog_23_method_8_code 115 = .ok (.iload 8, 2) := by decide +kernel
theorem dna_117 : decode prog_23_method_8_code 117 = .ok (.aload_n 0, 1) := by decide +kernel
theorem dna_118 : decode prog_23_method_8_code 118 = .ok (.getfield 42, 3) := by decide +kernel
theorem dna_121 : decode prog_23_method_8_code 121 = .ok (.iadd, 1) := by decide +kernel
theorem dna_122 : decode prog_23_method_8_code 122 = .ok (.i2l, 1) := by decide +kernel
theorem dna_123 : decode prog_23_method_8_code 123 = .ok (.aload_n 0, 1) := by decide +kernel
theorem dna_124 : decode prog_23_method_8_code 124 = .ok (.getfield 36, 3) := by decide +kernel
theorem dna_127 : decode prog_23_method_8_code 127 = .ok (.lshl, 1) := by decide +kernel
theorem dna_128 : decode prog_23_method_8_code 128 = .ok (.lor, 1) := by decide +kernel
theorem dna_129 : decode prog_23_method_8_code 129 = .ok (.lload 6, 2) := by decide +kernel
theorem dna_131 : decode prog_23_method_8_code 131 = .ok (.aload_n 0, 1) := by decide +kernel
theorem dna_132 : decode prog_23_method_8_code 132 = .ok (.getfield 48, 3) := by decide +kernel
theorem dna_135 : decode prog_23_method_8_code 135 = .ok (.lushr, 1) := by decide +kernel
theorem dna_136 : decode prog_23_method_8_code 136 = .ok (.lor, 1) := by decide +kernel
theorem dna_137 : decode prog_23_method_8_code 137 = .ok (.lreturn, 1) := by decide +kernel
theorem dna_138 : decode prog_23_method_8_code 138 = .ok (.aload_n 0, 1) := by decide +kernel
theorem dna_139 : decode prog_23_method_8_code 139 = .ok (.getfield 48, 3) := by decide +kernel
theorem dna_142 : decode prog_23_method_8_code 142 = .ok (.iconst 1, 1) := by decide +kernel
theorem dna_143 : decode prog_23_method_8_code 143 = .ok (.aload_n 0, 1) := by decide +kernel
theorem dna_144 : decode prog_23_method_8_code 144 = .ok (.getfield 42, 3) := by decide +kernel
theorem dna_147 : decode prog_23_method_8_code 147 = .ok (.isub, 1) := by decide +kernel
theorem dna_148 : decode prog_23_method_8_code 148 = .ok (.iload 8, 2) := by decide +kernel
theorem dna_150 : decode prog_23_method_8_code 150 = .ok (.isub, 1) := by decide +kernel
theorem dna_151 : decode prog_23_method_8_code 151 = .ok (.iadd, 1) := by decide +kernel
theorem dna_152 : decode prog_23_method_8_code 152 = .ok (.istore 9, 2) := by decide +kernel
theorem dna_154 : decode prog_23_method_8_code 154 = .ok (.ldc2_w 77, 3) := by decide +kernel
theorem dna_157 : decode prog_23_method_8_code 157 = .ok (.lload 6, 2) := by decide +kernel
theorem dna_159 : decode prog_23_method_8_code 159 = .ok (.lor, 1) := by decide +kernel
theorem dna_160 : decode prog_23_method_8_code 160 = .ok (.lstore 10, 2) := by decide +kernel
theorem dna_162 : decode prog_23_method_8_code 162 = .ok (.iload 9, 2) := by decide +kernel
theorem dna_164 : decode prog_23_method_8_code 164 = .ok (.bipush 64, 2) := by decide +kernel
theorem dna_166 : decode prog_23_method_8_code 166 = .ok (.if_icmp .lt 7, 3) := by decide +kernel
theorem dna_169 : decode prog_23_method_8_code 169 = .ok (.lload_n 3, 1) := by decide +kernel
theorem dna_170 : decode prog_23_method_8_code 170 = .ok (.goto 10, 3) := by decide +kernel
theorem dna_173 : decode prog_23_method_8_code 173 = .ok (.lload_n 3, 1) := by decide +kernel
theorem dna_174 : decode prog_23_method_8_code 174 = .ok (.lload 10, 2) := by decide +kernel
theorem dna_176 : decode prog_23_method_8_code 176 = .ok (.iload 9, 2) := by decide +kernel
theorem dna_178 : decode prog_23_method_8_code 178 = .ok (.lushr, 1) := by decide +kernel
theorem dna_179 : decode prog_23_method_8_code 179 = .ok (.lor, 1) := by decide +kernel
theorem dna_180 : decode prog_23_method_8_code 180 = .ok (.lreturn, 1) := by decide +kernel
theorem pn_na : plainName "com/example/samewire/samewire/FloatFormat" = true := by first | (simp [plainName, overriddenIn]; done) | decide +kernel
theorem ef_na (m : MethodId) (a1 : Addr) (bits : Int64) : entryFrame m #[(.ref a1), (.long bits)] 12 = (mkF m 0 #[.val (.ref a1), .val (.long bits), .second, .unset, .unset, .unset, .unset, .unset, .unset, .unset, .unset, .unset] []) := by first | (simp [entryFrame, mkF, argsToLocals, Value.category]; done) | rfl
def Q_na (Z : State) (a1 dA : Addr) (bits : Int64) (ss bi dr sp fr : Int32) (h0 : Heap) (n0 : Nat) (v : Option Value) (h : Heap) (L : List Loc) : Prop := v = some (.long (own_nar ss bi dr sp fr (XT.ushrL bits (63 : Int32) <<< (ss.toInt64 &&& 63)) ((XT.ushrL bits (52 : Int32)).toInt32 &&& (2047 : Int32)) (bits &&& (4503599627370495 : Int64)))) ∧ Fr n0 L ∧ h = h0
set_option maxRecDepth 65536 in
set_option maxHeartbeats 40000000 in
theorem rm_na (l : Launch) (Z : State) (a0 : Array Value) (hw : ∀ d ∈ tables_1, d.before a0 Z = true) (ws : List Jvm.Cond) (a1 dA : Addr) (bits : Int64) (ss bi dr sp fr : Int32) (h0 : Heap) (n0 : Nat) (Z0 : n0 ≤ h0.size) (SD : Sta Z h0 "com/example/samewire/samewire/FloatFormat" "DOUBLE" "Lcom/example/samewire/samewire/FloatFormat;" (.ref dA)) (ne : a1 ≠ dA) (F_ss : Fld Z h0 a1 "com/example/samewire/samewire/FloatFormat" "signShift" "I" (.int ss)) (F_bi : Fld Z h0 a1 "com/example/samewire/samewire/FloatFormat" "bias" "I" (.int bi)) (F_dr : Fld Z h0 a1 "com/example/samewire/samewire/FloatFormat" "droppedBits" "I" (.int dr)) (F_sp : Fld Z h0 a1 "com/example/samewire/samewire/FloatFormat" "specialExponent" "I" (.int sp)) (F_fr : Fld Z h0 a1 "com/example/samewire/samewire/FloatFormat" "fractionBits" "I" (.int fr)) :
    MetFree l (⟨"com/example/samewire/samewire/FloatFormat", "narrow", "(J)J"⟩ : MethodName) (head1 (Jvm.Cond.code (⟨"com/example/samewire/samewire/FloatFormat", "narrow", "(J)J"⟩ : MethodName) prog_23_method_8_code 12 (some .long) :: ws) ({ frames := 0, cells := 0, slots := 0, locals := 0 } : Room)) (fun a U => a = #[(.ref a1), (.long bits)] ∧ Z.Warmed39 U.vm ∧ U.heap = h0) (fun _ _ _ _ _ => True) (fun _ U o U' => ∃ v L, o = .returned v ∧ Q_na Z a1 dA bits ss bi dr sp fr h0 n0 v U'.heap L ∧ FrameEnd U o U' L ({ frames := 0, cells := 0, slots := 0, locals := 0 } : Room).cells ({ frames := 0, cells := 0, slots := 0, locals := 0 } : Room).slots) := by
  refine MetFree.of_bodySF (plainFor_of_name pn_na) hisR ?_
  intro p e s m args below meth c s₁ Bd hml0 hP hK
  obtain ⟨rfl, hZ, hh⟩ := hP
  have hx := Bd.exec
  have hby := Bd.bytes
  have hml : c.maxLocals = 12 := hml0
  have hown : s.vm.findClass "com/example/samewire/samewire/FloatFormat" = some m.cls := findClass_of_methodNamed Bd.named
  have hnm := (name_of_methodNamed Bd.named Bd.method).1
  have X0 : Stand p l e ({ frames := 0, cells := 0, slots := 0, locals := 0 } : Room) s m #[(.ref a1), (.long bits)] below meth c s₁ [] 0 0 := Stand.of_body Bd
  have e0 : s₁.heap = h0 := by rw [← hh, Bd.state]; rfl
  have N0 := Fr.nil n0
  have pre0 : ∀ t, Steps p.tables e below (s₁.setTop (mkF m 0 #[.val (.ref a1), .val (.long bits), .second, .unset, .unset, .unset, .unset, .unset, .unset, .unset, .unset, .unset] [])) t → Steps p.tables e below (s₁.setTop (entryFrame m #[(.ref a1), (.long bits)] 12)) t := fun t k => castTop (ef_na m a1 bits) k
  have pre2 : ∀ t, Steps p.tables e below (s₁.setTop (mkF m 1 #[.val (.ref a1), .val (.long bits), .second, .unset, .unset, .unset, .unset, .unset, .unset, .unset, .unset, .unset] [(.ref a1)])) t → Steps p.tables e below (s₁.setTop (entryFrame m #[(.ref a1), (.long bits)] 12)) t := fun t k => pre0 t (by
    show Steps p.tables e below (s₁.setTop (mkF m 0 #[.val (.ref a1), .val (.long bits), .second, .unset, .unset, .unset, .unset, .unset, .unset, .unset, .unset, .unset] [])) _
    refine XS.aloadN X0.here hx rfl (hb hby dna_0) rfl rfl ?_
    show Steps p.tables e below (s₁.setTop (mkF m 1 #[.val (.ref a1), .val (.long bits), .second, .unset, .unset, .unset, .unset, .unset, .unset, .unset, .unset, .unset] [(.ref a1)])) _
    exact k)
  obtain ⟨T3, X3, e3, st3⟩ := getS2 X0 hx hZ hown (host := "") (Or.inl (hw _ (List.mem_of_getElem? (i := 10) rfl))) Via.refl e0 SD (g := (mkF m 1 #[.val (.ref a1), .val (.long bits), .second, .unset, .unset, .unset, .unset, .unset, .unset, .unset, .unset, .unset] [(.ref a1)])) rfl (hb hby dna_1)
  have pre4 : ∀ t, Steps p.tables e below (T3.setTop (mkF m 14 #[.val (.ref a1), .val (.long bits), .second, .unset, .unset, .unset, .unset, .unset, .unset, .unset, .unset, .unset] [(.ref a1), (.long (XT.ushrL bits (63 : Int32)))])) t → Steps p.tables e below (s₁.setTop (entryFrame m #[(.ref a1), (.long bits)] 12)) t := fun t k => pre2 t (by
    show Steps p.tables e below (s₁.setTop (mkF m 1 #[.val (.ref a1), .val (.long bits), .second, .unset, .unset, .unset, .unset, .unset, .unset, .unset, .unset, .unset] [(.ref a1)])) _
    refine st3 _ ?_
    show Steps p.tables e below (T3.setTop (mkF m 4 #[.val (.ref a1), .val (.long bits), .second, .unset, .unset, .unset, .unset, .unset, .unset, .unset, .unset, .unset] [(.ref dA), (.ref a1)])) _
    refine XT.acmpYes X3.here hx rfl (pc0 := 4) (pc' := 9) rfl (hb hby dna_4) rfl rfl rfl (XT.aa_ne_t (fun q => ne (Value.ref.inj q))) (by decide) (by decide) ?_
    show Steps p.tables e below (T3.setTop (mkF m 9 #[.val (.ref a1), .val (.long bits), .second, .unset, .unset, .unset, .unset, .unset, .unset, .unset, .unset, .unset] [])) _
    refine XT.lloadN X3.here hx rfl (hb hby dna_9) rfl ?_
    show Steps p.tables e below (T3.setTop (mkF m 10 #[.val (.ref a1), .val (.long bits), .second, .unset, .unset, .unset, .unset, .unset, .unset, .unset, .unset, .unset] [(.long bits)])) _
    refine XS.bipush X3.here hx rfl (hb hby dna_10) ?_
    show Steps p.tables e below (T3.setTop (mkF m 12 #[.val (.ref a1), .val (.long bits), .second, .unset, .unset, .unset, .unset, .unset, .unset, .unset, .unset, .unset] [(.int (63 : Int32)), (.long bits)])) _
    refine XT.lushr X3.here hx rfl (hb hby dna_12) rfl ?_
    show Steps p.tables e below (T3.setTop (mkF m 13 #[.val (.ref a1), .val (.long bits), .second, .unset, .unset, .unset, .unset, .unset, .unset, .unset, .unset, .unset] [(.long (XT.ushrL bits (63 : Int32)))])) _
    refine XS.aloadN X3.here hx rfl (hb hby dna_13) rfl rfl ?_
    show Steps p.tables e below (T3.setTop (mkF m 14 #[.val (.ref a1), .val (.long bits), .second, .unset, .unset, .unset, .unset, .unset, .unset, .unset, .unset, .unset] [(.ref a1), (.long (XT.ushrL bits (63 : Int32)))])) _
    exact k)
  obtain ⟨T5, X5, e5, st5⟩ := getF X3 hx hZ hown (host := "") (Or.inl (hw _ (List.mem_of_getElem? (i := 12) rfl))) Via.refl e3 F_ss (g := (mkF m 14 #[.val (.ref a1), .val (.long bits), .second, .unset, .unset, .unset, .unset, .unset, .unset, .unset, .unset, .unset] [(.ref a1), (.long (XT.ushrL bits (63 : Int32)))])) rfl rfl (hb hby dna_14)
  obtain ⟨sg, hsg⟩ : ∃ z : Int64, ((XT.ushrL bits (63 : Int32)) <<< (ss.toInt64 &&& 63)) = z := ⟨_, rfl⟩
  obtain ⟨ee, hee⟩ : ∃ z : Int32, (((XT.ushrL bits (52 : Int32)).toInt32) &&& (2047 : Int32)) = z := ⟨_, rfl⟩
  obtain ⟨ff, hff⟩ : ∃ z : Int64, (bits &&& (4503599627370495 : Int64)) = z := ⟨_, rfl⟩
  have pre6 : ∀ t, Steps p.tables e below (T5.setTop (mkF m 42 #[.val (.ref a1), .val (.long bits), .second, .val (.long sg), .second, .val (.int ee), .val (.long ff), .second, .unset, .unset, .unset, .unset] [(.int (2047 : Int32)), (.int ee)])) t → Steps p.tables e below (s₁.setTop (entryFrame m #[(.ref a1), (.long bits)] 12)) t := fun t k => pre4 t (by
    show Steps p.tables e below (T3.setTop (mkF m 14 #[.val (.ref a1), .val (.long bits), .second, .unset, .unset, .unset, .unset, .unset, .unset, .unset, .unset, .unset] [(.ref a1), (.long (XT.ushrL bits (63 : Int32)))])) _
    refine st5 _ ?_
    show Steps p.tables e below (T5.setTop (mkF m 17 #[.val (.ref a1), .val (.long bits), .second, .unset, .unset, .unset, .unset, .unset, .unset, .unset, .unset, .unset] [(.int ss), (.long (XT.ushrL bits (63 : Int32)))])) _
    refine XT.lshl X5.here hx rfl (hb hby dna_17) rfl ?_
    show Steps p.tables e below (T5.setTop (mkF m 18 #[.val (.ref a1), .val (.long bits), .second, .unset, .unset, .unset, .unset, .unset, .unset, .unset, .unset, .unset] [(.long ((XT.ushrL bits (63 : Int32)) <<< (ss.toInt64 &&& 63)))])) _
    rw [hsg]
    show Steps p.tables e below (T5.setTop (mkF m 18 #[.val (.ref a1), .val (.long bits), .second, .unset, .unset, .unset, .unset, .unset, .unset, .unset, .unset, .unset] [(.long sg)])) _
    refine XT.lstoreN X5.here hx rfl (hb hby dna_18) rfl (l' := #[.val (.ref a1), .val (.long bits), .second, .val (.long sg), .second, .unset, .unset, .unset, .unset, .unset, .unset, .unset]) rfl ?_
    show Steps p.tables e below (T5.setTop (mkF m 19 #[.val (.ref a1), .val (.long bits), .second, .val (.long sg), .second, .unset, .unset, .unset, .unset, .unset, .unset, .unset] [])) _
    refine XT.lloadN X5.here hx rfl (hb hby dna_19) rfl ?_
    show Steps p.tables e below (T5.setTop (mkF m 20 #[.val (.ref a1), .val (.long bits), .second, .val (.long sg), .second, .unset, .unset, .unset, .unset, .unset, .unset, .unset] [(.long bits)])) _
    refine XS.bipush X5.here hx rfl (hb hby dna_20) ?_
    show Steps p.tables e below (T5.setTop (mkF m 22 #[.val (.ref a1), .val (.long bits), .second, .val (.long sg), .second, .unset, .unset, .unset, .unset, .unset, .unset, .unset] [(.int (52 : Int32)), (.long bits)])) _
    refine XT.lushr X5.here hx rfl (hb hby dna_22) rfl ?_
    show Steps p.tables e below (T5.setTop (mkF m 23 #[.val (.ref a1), .val (.long bits), .second, .val (.long sg), .second, .unset, .unset, .unset, .unset, .unset, .unset, .unset] [(.long (XT.ushrL bits (52 : Int32)))])) _
    refine XT.l2i X5.here hx rfl (hb hby dna_23) rfl ?_
    show Steps p.tables e below (T5.setTop (mkF m 24 #[.val (.ref a1), .val (.long bits), .second, .val (.long sg), .second, .unset, .unset, .unset, .unset, .unset, .unset, .unset] [(.int ((XT.ushrL bits (52 : Int32)).toInt32))])) _
    refine XS.sipush X5.here hx rfl (hb hby dna_24) ?_
    show Steps p.tables e below (T5.setTop (mkF m 27 #[.val (.ref a1), .val (.long bits), .second, .val (.long sg), .second, .unset, .unset, .unset, .unset, .unset, .unset, .unset] [(.int (2047 : Int32)), (.int ((XT.ushrL bits (52 : Int32)).toInt32))])) _
    refine XS.iand X5.here hx rfl (hb hby dna_27) rfl ?_
    show Steps p.tables e below (T5.setTop (mkF m 28 #[.val (.ref a1), .val (.long bits), .second, .val (.long sg), .second, .unset, .unset, .unset, .unset, .unset, .unset, .unset] [(.int (((XT.ushrL bits (52 : Int32)).toInt32) &&& (2047 : Int32)))])) _
    rw [hee]
    show Steps p.tables e below (T5.setTop (mkF m 28 #[.val (.ref a1), .val (.long bits), .second, .val (.long sg), .second, .unset, .unset, .unset, .unset, .unset, .unset, .unset] [(.int ee)])) _
    refine XS.istore X5.here hx rfl (hb hby dna_28) rfl (l' := #[.val (.ref a1), .val (.long bits), .second, .val (.long sg), .second, .val (.int ee), .unset, .unset, .unset, .unset, .unset, .unset]) rfl ?_
    show Steps p.tables e below (T5.setTop (mkF m 30 #[.val (.ref a1), .val (.long bits), .second, .val (.long sg), .second, .val (.int ee), .unset, .unset, .unset, .unset, .unset, .unset] [])) _
    refine XT.lloadN X5.here hx rfl (hb hby dna_30) rfl ?_
    show Steps p.tables e below (T5.setTop (mkF m 31 #[.val (.ref a1), .val (.long bits), .second, .val (.long sg), .second, .val (.int ee), .unset, .unset, .unset, .unset, .unset, .unset] [(.long bits)])) _
    refine X5.ldc2J hx hown (mvT hZ (hw _ (List.mem_of_getElem? (i := 14) rfl))) rfl (hb hby dna_31) ?_
    show Steps p.tables e below (T5.setTop (mkF m 34 #[.val (.ref a1), .val (.long bits), .second, .val (.long sg), .second, .val (.int ee), .unset, .unset, .unset, .unset, .unset, .unset] [(.long (4503599627370495 : Int64)), (.long bits)])) _
    refine XT.land X5.here hx rfl (hb hby dna_34) rfl ?_
    show Steps p.tables e below (T5.setTop (mkF m 35 #[.val (.ref a1), .val (.long bits), .second, .val (.long sg), .second, .val (.int ee), .unset, .unset, .unset, .unset, .unset, .unset] [(.long (bits &&& (4503599627370495 : Int64)))])) _
    rw [hff]
    show Steps p.tables e below (T5.setTop (mkF m 35 #[.val (.ref a1), .val (.long bits), .second, .val (.long sg), .second, .val (.int ee), .unset, .unset, .unset, .unset, .unset, .unset] [(.long ff)])) _
    refine XT.lstore X5.here hx rfl (hb hby dna_35) rfl (l' := #[.val (.ref a1), .val (.long bits), .second, .val (.long sg), .second, .val (.int ee), .val (.long ff), .second, .unset, .unset, .unset, .unset]) rfl ?_
    show Steps p.tables e below (T5.setTop (mkF m 37 #[.val (.ref a1), .val (.long bits), .second, .val (.long sg), .second, .val (.int ee), .val (.long ff), .second, .unset, .unset, .unset, .unset] [])) _
    refine XS.iload X5.here hx rfl (hb hby dna_37) rfl ?_
    show Steps p.tables e below (T5.setTop (mkF m 39 #[.val (.ref a1), .val (.long bits), .second, .val (.long sg), .second, .val (.int ee), .val (.long ff), .second, .unset, .unset, .unset, .unset] [(.int ee)])) _
    refine XS.sipush X5.here hx rfl (hb hby dna_39) ?_
    show Steps p.tables e below (T5.setTop (mkF m 42 #[.val (.ref a1), .val (.long bits), .second, .val (.long sg), .second, .val (.int ee), .val (.long ff), .second, .unset, .unset, .unset, .unset] [(.int (2047 : Int32)), (.int ee)])) _
    exact k)
  by_cases h1 : ee = 2047
  · skip
    have pre7 : ∀ t, Steps p.tables e below (T5.setTop (mkF m 47 #[.val (.ref a1), .val (.long bits), .second, .val (.long sg), .second, .val (.int ee), .val (.long ff), .second, .unset, .unset, .unset, .unset] [(.ref a1), (.long sg)])) t → Steps p.tables e below (s₁.setTop (entryFrame m #[(.ref a1), (.long bits)] 12)) t := fun t k => pre6 t (by
      show Steps p.tables e below (T5.setTop (mkF m 42 #[.val (.ref a1), .val (.long bits), .second, .val (.long sg), .second, .val (.int ee), .val (.long ff), .second, .unset, .unset, .unset, .unset] [(.int (2047 : Int32)), (.int ee)])) _
      refine XS.icmpNo X5.here hx rfl (hb hby dna_42) rfl (XT.ii_ne_f h1) ?_
      show Steps p.tables e below (T5.setTop (mkF m 45 #[.val (.ref a1), .val (.long bits), .second, .val (.long sg), .second, .val (.int ee), .val (.long ff), .second, .unset, .unset, .unset, .unset] [])) _
      refine XT.lloadN X5.here hx rfl (hb hby dna_45) rfl ?_
      show Steps p.tables e below (T5.setTop (mkF m 46 #[.val (.ref a1), .val (.long bits), .second, .val (.long sg), .second, .val (.int ee), .val (.long ff), .second, .unset, .unset, .unset, .unset] [(.long sg)])) _
      refine XS.aloadN X5.here hx rfl (hb hby dna_46) rfl rfl ?_
      show Steps p.tables e below (T5.setTop (mkF m 47 #[.val (.ref a1), .val (.long bits), .second, .val (.long sg), .second, .val (.int ee), .val (.long ff), .second, .unset, .unset, .unset, .unset] [(.ref a1), (.long sg)])) _
      exact k)
    obtain ⟨T8, X8, e8, st8⟩ := getF X5 hx hZ hown (host := "") (Or.inl (hw _ (List.mem_of_getElem? (i := 29) rfl))) Via.refl e5 F_sp (g := (mkF m 47 #[.val (.ref a1), .val (.long bits), .second, .val (.long sg), .second, .val (.int ee), .val (.long ff), .second, .unset, .unset, .unset, .unset] [(.ref a1), (.long sg)])) rfl rfl (hb hby dna_47)
    have pre9 : ∀ t, Steps p.tables e below (T8.setTop (mkF m 52 #[.val (.ref a1), .val (.long bits), .second, .val (.long sg), .second, .val (.int ee), .val (.long ff), .second, .unset, .unset, .unset, .unset] [(.ref a1), (.long (sp.toInt64)), (.long sg)])) t → Steps p.tables e below (s₁.setTop (entryFrame m #[(.ref a1), (.long bits)] 12)) t := fun t k => pre7 t (by
      show Steps p.tables e below (T5.setTop (mkF m 47 #[.val (.ref a1), .val (.long bits), .second, .val (.long sg), .second, .val (.int ee), .val (.long ff), .second, .unset, .unset, .unset, .unset] [(.ref a1), (.long sg)])) _
      refine st8 _ ?_
      show Steps p.tables e below (T8.setTop (mkF m 50 #[.val (.ref a1), .val (.long bits), .second, .val (.long sg), .second, .val (.int ee), .val (.long ff), .second, .unset, .unset, .unset, .unset] [(.int sp), (.long sg)])) _
      refine XT.i2l X8.here hx rfl (hb hby dna_50) rfl ?_
      show Steps p.tables e below (T8.setTop (mkF m 51 #[.val (.ref a1), .val (.long bits), .second, .val (.long sg), .second, .val (.int ee), .val (.long ff), .second, .unset, .unset, .unset, .unset] [(.long (sp.toInt64)), (.long sg)])) _
      refine XS.aloadN X8.here hx rfl (hb hby dna_51) rfl rfl ?_
      show Steps p.tables e below (T8.setTop (mkF m 52 #[.val (.ref a1), .val (.long bits), .second, .val (.long sg), .second, .val (.int ee), .val (.long ff), .second, .unset, .unset, .unset, .unset] [(.ref a1), (.long (sp.toInt64)), (.long sg)])) _
      exact k)
    obtain ⟨T10, X10, e10, st10⟩ := getF X8 hx hZ hown (host := "") (Or.inl (hw _ (List.mem_of_getElem? (i := 31) rfl))) Via.refl e8 F_fr (g := (mkF m 52 #[.val (.ref a1), .val (.long bits), .second, .val (.long sg), .second, .val (.int ee), .val (.long ff), .second, .unset, .unset, .unset, .unset] [(.ref a1), (.long (sp.toInt64)), (.long sg)])) rfl rfl (hb hby dna_52)
    have pre11 : ∀ t, Steps p.tables e below (T10.setTop (mkF m 60 #[.val (.ref a1), .val (.long bits), .second, .val (.long sg), .second, .val (.int ee), .val (.long ff), .second, .unset, .unset, .unset, .unset] [(.ref a1), (.long ff), (.long (sg ||| ((sp.toInt64) <<< (fr.toInt64 &&& 63))))])) t → Steps p.tables e below (s₁.setTop (entryFrame m #[(.ref a1), (.long bits)] 12)) t := fun t k => pre9 t (by
      show Steps p.tables e below (T8.setTop (mkF m 52 #[.val (.ref a1), .val (.long bits), .second, .val (.long sg), .second, .val (.int ee), .val (.long ff), .second, .unset, .unset, .unset, .unset] [(.ref a1), (.long (sp.toInt64)), (.long sg)])) _
      refine st10 _ ?_
      show Steps p.tables e below (T10.setTop (mkF m 55 #[.val (.ref a1), .val (.long bits), .second, .val (.long sg), .second, .val (.int ee), .val (.long ff), .second, .unset, .unset, .unset, .unset] [(.int fr), (.long (sp.toInt64)), (.long sg)])) _
      refine XT.lshl X10.here hx rfl (hb hby dna_55) rfl ?_
      show Steps p.tables e below (T10.setTop (mkF m 56 #[.val (.ref a1), .val (.long bits), .second, .val (.long sg), .second, .val (.int ee), .val (.long ff), .second, .unset, .unset, .unset, .unset] [(.long ((sp.toInt64) <<< (fr.toInt64 &&& 63))), (.long sg)])) _
      refine XT.lor X10.here hx rfl (hb hby dna_56) rfl ?_
      show Steps p.tables e below (T10.setTop (mkF m 57 #[.val (.ref a1), .val (.long bits), .second, .val (.long sg), .second, .val (.int ee), .val (.long ff), .second, .unset, .unset, .unset, .unset] [(.long (sg ||| ((sp.toInt64) <<< (fr.toInt64 &&& 63))))])) _
      refine XT.lload X10.here hx rfl (hb hby dna_57) rfl ?_
      show Steps p.tables e below (T10.setTop (mkF m 59 #[.val (.ref a1), .val (.long bits), .second, .val (.long sg), .second, .val (.int ee), .val (.long ff), .second, .unset, .unset, .unset, .unset] [(.long ff), (.long (sg ||| ((sp.toInt64) <<< (fr.toInt64 &&& 63))))])) _
      refine XS.aloadN X10.here hx rfl (hb hby dna_59) rfl rfl ?_
      show Steps p.tables e below (T10.setTop (mkF m 60 #[.val (.ref a1), .val (.long bits), .second, .val (.long sg), .second, .val (.int ee), .val (.long ff), .second, .unset, .unset, .unset, .unset] [(.ref a1), (.long ff), (.long (sg ||| ((sp.toInt64) <<< (fr.toInt64 &&& 63))))])) _
      exact k)
    obtain ⟨T12, X12, e12, st12⟩ := getF X10 hx hZ hown (host := "") (Or.inl (hw _ (List.mem_of_getElem? (i := 17) rfl))) Via.refl e10 F_dr (g := (mkF m 60 #[.val (.ref a1), .val (.long bits), .second, .val (.long sg), .second, .val (.int ee), .val (.long ff), .second, .unset, .unset, .unset, .unset] [(.ref a1), (.long ff), (.long (sg ||| ((sp.toInt64) <<< (fr.toInt64 &&& 63))))])) rfl rfl (hb hby dna_60)
    have hf : own_nar ss bi dr sp fr (XT.ushrL bits (63 : Int32) <<< (ss.toInt64 &&& 63)) ((XT.ushrL bits (52 : Int32)).toInt32 &&& (2047 : Int32)) (bits &&& (4503599627370495 : Int64)) = ((sg ||| ((sp.toInt64) <<< (fr.toInt64 &&& 63))) ||| (XT.ushrL ff dr)) := by rw [hsg, hee, hff]; unfold own_nar; rw [if_pos h1]
    have pre13 : ∀ t, Steps p.tables e below (T12.setTop (mkF m 65 #[.val (.ref a1), .val (.long bits), .second, .val (.long sg), .second, .val (.int ee), .val (.long ff), .second, .unset, .unset, .unset, .unset] [(.long ((sg ||| ((sp.toInt64) <<< (fr.toInt64 &&& 63))) ||| (XT.ushrL ff dr)))])) t → Steps p.tables e below (s₁.setTop (entryFrame m #[(.ref a1), (.long bits)] 12)) t := fun t k => pre11 t (by
      show Steps p.tables e below (T10.setTop (mkF m 60 #[.val (.ref a1), .val (.long bits), .second, .val (.long sg), .second, .val (.int ee), .val (.long ff), .second, .unset, .unset, .unset, .unset] [(.ref a1), (.long ff), (.long (sg ||| ((sp.toInt64) <<< (fr.toInt64 &&& 63))))])) _
      refine st12 _ ?_
      show Steps p.tables e below (T12.setTop (mkF m 63 #[.val (.ref a1), .val (.long bits), .second, .val (.long sg), .second, .val (.int ee), .val (.long ff), .second, .unset, .unset, .unset, .unset] [(.int dr), (.long ff), (.long (sg ||| ((sp.toInt64) <<< (fr.toInt64 &&& 63))))])) _
      refine XT.lushr X12.here hx rfl (hb hby dna_63) rfl ?_
      show Steps p.tables e below (T12.setTop (mkF m 64 #[.val (.ref a1), .val (.long bits), .second, .val (.long sg), .second, .val (.int ee), .val (.long ff), .second, .unset, .unset, .unset, .unset] [(.long (XT.ushrL ff dr)), (.long (sg ||| ((sp.toInt64) <<< (fr.toInt64 &&& 63))))])) _
      refine XT.lor X12.here hx rfl (hb hby dna_64) rfl ?_
      show Steps p.tables e below (T12.setTop (mkF m 65 #[.val (.ref a1), .val (.long bits), .second, .val (.long sg), .second, .val (.int ee), .val (.long ff), .second, .unset, .unset, .unset, .unset] [(.long ((sg ||| ((sp.toInt64) <<< (fr.toInt64 &&& 63))) ||| (XT.ushrL ff dr)))])) _
      exact k)
    obtain ⟨fs, hr, hrun, hended, hW, hsame⟩ := X12.leave (v := some (.long ((sg ||| ((sp.toInt64) <<< (fr.toInt64 &&& 63))) ||| (XT.ushrL ff dr)))) (fun h => by rw [Bd.returns] at h; cases h)
    refine ⟨_, _, pre13 _ ?_, hrun, hended, _, _, rfl, ?_, ⟨_, rfl⟩, hW, hsame.mono (by decide) (by decide)⟩
    · exact X12.lreturnOut hx Bd.returns (hb hby dna_65) hr
    · show Q_na Z a1 dA bits ss bi dr sp fr h0 n0 _ T12.heap _
      unfold Q_na; rw [hf]
      rw [e12]
      exact ⟨rfl, N0, rfl⟩
  · skip
    have pre7 : ∀ t, Steps p.tables e below (T5.setTop (mkF m 68 #[.val (.ref a1), .val (.long bits), .second, .val (.long sg), .second, .val (.int ee), .val (.long ff), .second, .unset, .unset, .unset, .unset] [(.int ee)])) t → Steps p.tables e below (s₁.setTop (entryFrame m #[(.ref a1), (.long bits)] 12)) t := fun t k => pre6 t (by
      show Steps p.tables e below (T5.setTop (mkF m 42 #[.val (.ref a1), .val (.long bits), .second, .val (.long sg), .second, .val (.int ee), .val (.long ff), .second, .unset, .unset, .unset, .unset] [(.int (2047 : Int32)), (.int ee)])) _
      refine XS.icmpYes X5.here hx rfl (pc0 := 42) (pc' := 66) rfl (hb hby dna_42) rfl (XT.ii_ne_t h1) (by decide) (by decide) ?_
      show Steps p.tables e below (T5.setTop (mkF m 66 #[.val (.ref a1), .val (.long bits), .second, .val (.long sg), .second, .val (.int ee), .val (.long ff), .second, .unset, .unset, .unset, .unset] [])) _
      refine XS.iload X5.here hx rfl (hb hby dna_66) rfl ?_
      show Steps p.tables e below (T5.setTop (mkF m 68 #[.val (.ref a1), .val (.long bits), .second, .val (.long sg), .second, .val (.int ee), .val (.long ff), .second, .unset, .unset, .unset, .unset] [(.int ee)])) _
      exact k)
    by_cases h2 : ee = 0
    · skip
      have hf : own_nar ss bi dr sp fr (XT.ushrL bits (63 : Int32) <<< (ss.toInt64 &&& 63)) ((XT.ushrL bits (52 : Int32)).toInt32 &&& (2047 : Int32)) (bits &&& (4503599627370495 : Int64)) = sg := by rw [hsg, hee, hff]; unfold own_nar; rw [if_neg h1, if_pos h2]
      have pre8 : ∀ t, Steps p.tables e below (T5.setTop (mkF m 72 #[.val (.ref a1), .val (.long bits), .second, .val (.long sg), .second, .val (.int ee), .val (.long ff), .second, .unset, .unset, .unset, .unset] [(.long sg)])) t → Steps p.tables e below (s₁.setTop (entryFrame m #[(.ref a1), (.long bits)] 12)) t := fun t k => pre7 t (by
        show Steps p.tables e below (T5.setTop (mkF m 68 #[.val (.ref a1), .val (.long bits), .second, .val (.long sg), .second, .val (.int ee), .val (.long ff), .second, .unset, .unset, .unset, .unset] [(.int ee)])) _
        refine XS.ifNo X5.here hx rfl (hb hby dna_68) rfl (XT.i0_ne_f h2) ?_
        show Steps p.tables e below (T5.setTop (mkF m 71 #[.val (.ref a1), .val (.long bits), .second, .val (.long sg), .second, .val (.int ee), .val (.long ff), .second, .unset, .unset, .unset, .unset] [])) _
        refine XT.lloadN X5.here hx rfl (hb hby dna_71) rfl ?_
        show Steps p.tables e below (T5.setTop (mkF m 72 #[.val (.ref a1), .val (.long bits), .second, .val (.long sg), .second, .val (.int ee), .val (.long ff), .second, .unset, .unset, .unset, .unset] [(.long sg)])) _
        exact k)
      obtain ⟨fs, hr, hrun, hended, hW, hsame⟩ := X5.leave (v := some (.long sg)) (fun h => by rw [Bd.returns] at h; cases h)
      refine ⟨_, _, pre8 _ ?_, hrun, hended, _, _, rfl, ?_, ⟨_, rfl⟩, hW, hsame.mono (by decide) (by decide)⟩
      · exact X5.lreturnOut hx Bd.returns (hb hby dna_72) hr
      · show Q_na Z a1 dA bits ss bi dr sp fr h0 n0 _ T5.heap _
        unfold Q_na; rw [hf]
        rw [e5]
        exact ⟨rfl, N0, rfl⟩
    · skip
      have pre8 : ∀ t, Steps p.tables e below (T5.setTop (mkF m 84 #[.val (.ref a1), .val (.long bits), .second, .val (.long sg), .second, .val (.int ee), .val (.long ff), .second, .val (.int (ee - (1023 : Int32))), .unset, .unset, .unset] [(.ref a1), (.int (ee - (1023 : Int32)))])) t → Steps p.tables e below (s₁.setTop (entryFrame m #[(.ref a1), (.long bits)] 12)) t := fun t k => pre7 t (by
        show Steps p.tables e below (T5.setTop (mkF m 68 #[.val (.ref a1), .val (.long bits), .second, .val (.long sg), .second, .val (.int ee), .val (.long ff), .second, .unset, .unset, .unset, .unset] [(.int ee)])) _
        refine XS.ifYes X5.here hx rfl (pc0 := 68) (pc' := 73) rfl (hb hby dna_68) rfl (XT.i0_ne_t h2) (by decide) (by decide) ?_
        show Steps p.tables e below (T5.setTop (mkF m 73 #[.val (.ref a1), .val (.long bits), .second, .val (.long sg), .second, .val (.int ee), .val (.long ff), .second, .unset, .unset, .unset, .unset] [])) _
        refine XS.iload X5.here hx rfl (hb hby dna_73) rfl ?_
        show Steps p.tables e below (T5.setTop (mkF m 75 #[.val (.ref a1), .val (.long bits), .second, .val (.long sg), .second, .val (.int ee), .val (.long ff), .second, .unset, .unset, .unset, .unset] [(.int ee)])) _
        refine XS.sipush X5.here hx rfl (hb hby dna_75) ?_
        show Steps p.tables e below (T5.setTop (mkF m 78 #[.val (.ref a1), .val (.long bits), .second, .val (.long sg), .second, .val (.int ee), .val (.long ff), .second, .unset, .unset, .unset, .unset] [(.int (1023 : Int32)), (.int ee)])) _
        refine XS.isub X5.here hx rfl (hb hby dna_78) rfl ?_
        show Steps p.tables e below (T5.setTop (mkF m 79 #[.val (.ref a1), .val (.long bits), .second, .val (.long sg), .second, .val (.int ee), .val (.long ff), .second, .unset, .unset, .unset, .unset] [(.int (ee - (1023 : Int32)))])) _
        refine XS.istore X5.here hx rfl (hb hby dna_79) rfl (l' := #[.val (.ref a1), .val (.long bits), .second, .val (.long sg), .second, .val (.int ee), .val (.long ff), .second, .val (.int (ee - (1023 : Int32))), .unset, .unset, .unset]) rfl ?_
        show Steps p.tables e below (T5.setTop (mkF m 81 #[.val (.ref a1), .val (.long bits), .second, .val (.long sg), .second, .val (.int ee), .val (.long ff), .second, .val (.int (ee - (1023 : Int32))), .unset, .unset, .unset] [])) _
        refine XS.iload X5.here hx rfl (hb hby dna_81) rfl ?_
        show Steps p.tables e below (T5.setTop (mkF m 83 #[.val (.ref a1), .val (.long bits), .second, .val (.long sg), .second, .val (.int ee), .val (.long ff), .second, .val (.int (ee - (1023 : Int32))), .unset, .unset, .unset] [(.int (ee - (1023 : Int32)))])) _
        refine XS.aloadN X5.here hx rfl (hb hby dna_83) rfl rfl ?_
        show Steps p.tables e below (T5.setTop (mkF m 84 #[.val (.ref a1), .val (.long bits), .second, .val (.long sg), .second, .val (.int ee), .val (.long ff), .second, .val (.int (ee - (1023 : Int32))), .unset, .unset, .unset] [(.ref a1), (.int (ee - (1023 : Int32)))])) _
        exact k)
      obtain ⟨T9, X9, e9, st9⟩ := getF X5 hx hZ hown (host := "") (Or.inl (hw _ (List.mem_of_getElem? (i := 15) rfl))) Via.refl e5 F_bi (g := (mkF m 84 #[.val (.ref a1), .val (.long bits), .second, .val (.long sg), .second, .val (.int ee), .val (.long ff), .second, .val (.int (ee - (1023 : Int32))), .unset, .unset, .unset] [(.ref a1), (.int (ee - (1023 : Int32)))])) rfl rfl (hb hby dna_84)
      have pre10 : ∀ t, Steps p.tables e below (T9.setTop (mkF m 87 #[.val (.ref a1), .val (.long bits), .second, .val (.long sg), .second, .val (.int ee), .val (.long ff), .second, .val (.int (ee - (1023 : Int32))), .unset, .unset, .unset] [(.int bi), (.int (ee - (1023 : Int32)))])) t → Steps p.tables e below (s₁.setTop (entryFrame m #[(.ref a1), (.long bits)] 12)) t := fun t k => pre8 t (by
        show Steps p.tables e below (T5.setTop (mkF m 84 #[.val (.ref a1), .val (.long bits), .second, .val (.long sg), .second, .val (.int ee), .val (.long ff), .second, .val (.int (ee - (1023 : Int32))), .unset, .unset, .unset] [(.ref a1), (.int (ee - (1023 : Int32)))])) _
        refine st9 _ ?_
        show Steps p.tables e below (T9.setTop (mkF m 87 #[.val (.ref a1), .val (.long bits), .second, .val (.long sg), .second, .val (.int ee), .val (.long ff), .second, .val (.int (ee - (1023 : Int32))), .unset, .unset, .unset] [(.int bi), (.int (ee - (1023 : Int32)))])) _
        exact k)
      by_cases h3 : bi < ee - 1023
      · skip
        have pre11 : ∀ t, Steps p.tables e below (T9.setTop (mkF m 92 #[.val (.ref a1), .val (.long bits), .second, .val (.long sg), .second, .val (.int ee), .val (.long ff), .second, .val (.int (ee - (1023 : Int32))), .unset, .unset, .unset] [(.ref a1), (.long sg)])) t → Steps p.tables e below (s₁.setTop (entryFrame m #[(.ref a1), (.long bits)] 12)) t := fun t k => pre10 t (by
          show Steps p.tables e below (T9.setTop (mkF m 87 #[.val (.ref a1), .val (.long bits), .second, .val (.long sg), .second, .val (.int ee), .val (.long ff), .second, .val (.int (ee - (1023 : Int32))), .unset, .unset, .unset] [(.int bi), (.int (ee - (1023 : Int32)))])) _
          refine XS.icmpNo X9.here hx rfl (hb hby dna_87) rfl (XT.ii_le_f h3) ?_
          show Steps p.tables e below (T9.setTop (mkF m 90 #[.val (.ref a1), .val (.long bits), .second, .val (.long sg), .second, .val (.int ee), .val (.long ff), .second, .val (.int (ee - (1023 : Int32))), .unset, .unset, .unset] [])) _
          refine XT.lloadN X9.here hx rfl (hb hby dna_90) rfl ?_
          show Steps p.tables e below (T9.setTop (mkF m 91 #[.val (.ref a1), .val (.long bits), .second, .val (.long sg), .second, .val (.int ee), .val (.long ff), .second, .val (.int (ee - (1023 : Int32))), .unset, .unset, .unset] [(.long sg)])) _
          refine XS.aloadN X9.here hx rfl (hb hby dna_91) rfl rfl ?_
          show Steps p.tables e below (T9.setTop (mkF m 92 #[.val (.ref a1), .val (.long bits), .second, .val (.long sg), .second, .val (.int ee), .val (.long ff), .second, .val (.int (ee - (1023 : Int32))), .unset, .unset, .unset] [(.ref a1), (.long sg)])) _
          exact k)
        obtain ⟨T12, X12, e12, st12⟩ := getF X9 hx hZ hown (host := "") (Or.inl (hw _ (List.mem_of_getElem? (i := 29) rfl))) Via.refl e9 F_sp (g := (mkF m 92 #[.val (.ref a1), .val (.long bits), .second, .val (.long sg), .second, .val (.int ee), .val (.long ff), .second, .val (.int (ee - (1023 : Int32))), .unset, .unset, .unset] [(.ref a1), (.long sg)])) rfl rfl (hb hby dna_92)
        have pre13 : ∀ t, Steps p.tables e below (T12.setTop (mkF m 97 #[.val (.ref a1), .val (.long bits), .second, .val (.long sg), .second, .val (.int ee), .val (.long ff), .second, .val (.int (ee - (1023 : Int32))), .unset, .unset, .unset] [(.ref a1), (.long (sp.toInt64)), (.long sg)])) t → Steps p.tables e below (s₁.setTop (entryFrame m #[(.ref a1), (.long bits)] 12)) t := fun t k => pre11 t (by
          show Steps p.tables e below (T9.setTop (mkF m 92 #[.val (.ref a1), .val (.long bits), .second, .val (.long sg), .second, .val (.int ee), .val (.long ff), .second, .val (.int (ee - (1023 : Int32))), .unset, .unset, .unset] [(.ref a1), (.long sg)])) _
          refine st12 _ ?_
          show Steps p.tables e below (T12.setTop (mkF m 95 #[.val (.ref a1), .val (.long bits), .second, .val (.long sg), .second, .val (.int ee), .val (.long ff), .second, .val (.int (ee - (1023 : Int32))), .unset, .unset, .unset] [(.int sp), (.long sg)])) _
          refine XT.i2l X12.here hx rfl (hb hby dna_95) rfl ?_
          show Steps p.tables e below (T12.setTop (mkF m 96 #[.val (.ref a1), .val (.long bits), .second, .val (.long sg), .second, .val (.int ee), .val (.long ff), .second, .val (.int (ee - (1023 : Int32))), .unset, .unset, .unset] [(.long (sp.toInt64)), (.long sg)])) _
          refine XS.aloadN X12.here hx rfl (hb hby dna_96) rfl rfl ?_
          show Steps p.tables e below (T12.setTop (mkF m 97 #[.val (.ref a1), .val (.long bits), .second, .val (.long sg), .second, .val (.int ee), .val (.long ff), .second, .val (.int (ee - (1023 : Int32))), .unset, .unset, .unset] [(.ref a1), (.long (sp.toInt64)), (.long sg)])) _
          exact k)
        obtain ⟨T14, X14, e14, st14⟩ := getF X12 hx hZ hown (host := "") (Or.inl (hw _ (List.mem_of_getElem? (i := 31) rfl))) Via.refl e12 F_fr (g := (mkF m 97 #[.val (.ref a1), .val (.long bits), .second, .val (.long sg), .second, .val (.int ee), .val (.long ff), .second, .val (.int (ee - (1023 : Int32))), .unset, .unset, .unset] [(.ref a1), (.long (sp.toInt64)), (.long sg)])) rfl rfl (hb hby dna_97)
        have hf : own_nar ss bi dr sp fr (XT.ushrL bits (63 : Int32) <<< (ss.toInt64 &&& 63)) ((XT.ushrL bits (52 : Int32)).toInt32 &&& (2047 : Int32)) (bits &&& (4503599627370495 : Int64)) = (sg ||| ((sp.toInt64) <<< (fr.toInt64 &&& 63))) := by rw [hsg, hee, hff]; unfold own_nar; rw [if_neg h1, if_neg h2, if_pos h3]
        have pre15 : ∀ t, Steps p.tables e below (T14.setTop (mkF m 102 #[.val (.ref a1), .val (.long bits), .second, .val (.long sg), .second, .val (.int ee), .val (.long ff), .second, .val (.int (ee - (1023 : Int32))), .unset, .unset, .unset] [(.long (sg ||| ((sp.toInt64) <<< (fr.toInt64 &&& 63))))])) t → Steps p.tables e below (s₁.setTop (entryFrame m #[(.ref a1), (.long bits)] 12)) t := fun t k => pre13 t (by
          show Steps p.tables e below (T12.setTop (mkF m 97 #[.val (.ref a1), .val (.long bits), .second, .val (.long sg), .second, .val (.int ee), .val (.long ff), .second, .val (.int (ee - (1023 : Int32))), .unset, .unset, .unset] [(.ref a1), (.long (sp.toInt64)), (.long sg)])) _
          refine st14 _ ?_
          show Steps p.tables e below (T14.setTop (mkF m 100 #[.val (.ref a1), .val (.long bits), .second, .val (.long sg), .second, .val (.int ee), .val (.long ff), .second, .val (.int (ee - (1023 : Int32))), .unset, .unset, .unset] [(.int fr), (.long (sp.toInt64)), (.long sg)])) _
          refine XT.lshl X14.here hx rfl (hb hby dna_100) rfl ?_
          show Steps p.tables e below (T14.setTop (mkF m 101 #[.val (.ref a1), .val (.long bits), .second, .val (.long sg), .second, .val (.int ee), .val (.long ff), .second, .val (.int (ee - (1023 : Int32))), .unset, .unset, .unset] [(.long ((sp.toInt64) <<< (fr.toInt64 &&& 63))), (.long sg)])) _
          refine XT.lor X14.here hx rfl (hb hby dna_101) rfl ?_
          show Steps p.tables e below (T14.setTop (mkF m 102 #[.val (.ref a1), .val (.long bits), .second, .val (.long sg), .second, .val (.int ee), .val (.long ff), .second, .val (.int (ee - (1023 : Int32))), .unset, .unset, .unset] [(.long (sg ||| ((sp.toInt64) <<< (fr.toInt64 &&& 63))))])) _
          exact k)
        obtain ⟨fs, hr, hrun, hended, hW, hsame⟩ := X14.leave (v := some (.long (sg ||| ((sp.toInt64) <<< (fr.toInt64 &&& 63))))) (fun h => by rw [Bd.returns] at h; cases h)
        refine ⟨_, _, pre15 _ ?_, hrun, hended, _, _, rfl, ?_, ⟨_, rfl⟩, hW, hsame.mono (by decide) (by decide)⟩
        · exact X14.lreturnOut hx Bd.returns (hb hby dna_102) hr
        · show Q_na Z a1 dA bits ss bi dr sp fr h0 n0 _ T14.heap _
          unfold Q_na; rw [hf]
          rw [e14]
          exact ⟨rfl, N0, rfl⟩
      · skip
        have pre11 : ∀ t, Steps p.tables e below (T9.setTop (mkF m 107 #[.val (.ref a1), .val (.long bits), .second, .val (.long sg), .second, .val (.int ee), .val (.long ff), .second, .val (.int (ee - (1023 : Int32))), .unset, .unset, .unset] [(.ref a1), (.int (1 : Int32)), (.int (ee - (1023 : Int32)))])) t → Steps p.tables e below (s₁.setTop (entryFrame m #[(.ref a1), (.long bits)] 12)) t := fun t k => pre10 t (by
          show Steps p.tables e below (T9.setTop (mkF m 87 #[.val (.ref a1), .val (.long bits), .second, .val (.long sg), .second, .val (.int ee), .val (.long ff), .second, .val (.int (ee - (1023 : Int32))), .unset, .unset, .unset] [(.int bi), (.int (ee - (1023 : Int32)))])) _
          refine XS.icmpYes X9.here hx rfl (pc0 := 87) (pc' := 103) rfl (hb hby dna_87) rfl (XT.ii_le_t h3) (by decide) (by decide) ?_
          show Steps p.tables e below (T9.setTop (mkF m 103 #[.val (.ref a1), .val (.long bits), .second, .val (.long sg), .second, .val (.int ee), .val (.long ff), .second, .val (.int (ee - (1023 : Int32))), .unset, .unset, .unset] [])) _
          refine XS.iload X9.here hx rfl (hb hby dna_103) rfl ?_
          show Steps p.tables e below (T9.setTop (mkF m 105 #[.val (.ref a1), .val (.long bits), .second, .val (.long sg), .second, .val (.int ee), .val (.long ff), .second, .val (.int (ee - (1023 : Int32))), .unset, .unset, .unset] [(.int (ee - (1023 : Int32)))])) _
          refine XS.iconst X9.here hx rfl (hb hby dna_105) ?_
          show Steps p.tables e below (T9.setTop (mkF m 106 #[.val (.ref a1), .val (.long bits), .second, .val (.long sg), .second, .val (.int ee), .val (.long ff), .second, .val (.int (ee - (1023 : Int32))), .unset, .unset, .unset] [(.int (1 : Int32)), (.int (ee - (1023 : Int32)))])) _
          refine XS.aloadN X9.here hx rfl (hb hby dna_106) rfl rfl ?_
          show Steps p.tables e below (T9.setTop (mkF m 107 #[.val (.ref a1), .val (.long bits), .second, .val (.long sg), .second, .val (.int ee), .val (.long ff), .second, .val (.int (ee - (1023 : Int32))), .unset, .unset, .unset] [(.ref a1), (.int (1 : Int32)), (.int (ee - (1023 : Int32)))])) _
          exact k)
        obtain ⟨T12, X12, e12, st12⟩ := getF X9 hx hZ hown (host := "") (Or.inl (hw _ (List.mem_of_getElem? (i := 15) rfl))) Via.refl e9 F_bi (g := (mkF m 107 #[.val (.ref a1), .val (.long bits), .second, .val (.long sg), .second, .val (.int ee), .val (.long ff), .second, .val (.int (ee - (1023 : Int32))), .unset, .unset, .unset] [(.ref a1), (.int (1 : Int32)), (.int (ee - (1023 : Int32)))])) rfl rfl (hb hby dna_107)
        have pre13 : ∀ t, Steps p.tables e below (T12.setTop (mkF m 111 #[.val (.ref a1), .val (.long bits), .second, .val (.long sg), .second, .val (.int ee), .val (.long ff), .second, .val (.int (ee - (1023 : Int32))), .unset, .unset, .unset] [(.int ((1 : Int32) - bi)), (.int (ee - (1023 : Int32)))])) t → Steps p.tables e below (s₁.setTop (entryFrame m #[(.ref a1), (.long bits)] 12)) t := fun t k => pre11 t (by
          show Steps p.tables e below (T9.setTop (mkF m 107 #[.val (.ref a1), .val (.long bits), .second, .val (.long sg), .second, .val (.int ee), .val (.long ff), .second, .val (.int (ee - (1023 : Int32))), .unset, .unset, .unset] [(.ref a1), (.int (1 : Int32)), (.int (ee - (1023 : Int32)))])) _
          refine st12 _ ?_
          show Steps p.tables e below (T12.setTop (mkF m 110 #[.val (.ref a1), .val (.long bits), .second, .val (.long sg), .second, .val (.int ee), .val (.long ff), .second, .val (.int (ee - (1023 : Int32))), .unset, .unset, .unset] [(.int bi), (.int (1 : Int32)), (.int (ee - (1023 : Int32)))])) _
          refine XS.isub X12.here hx rfl (hb hby dna_110) rfl ?_
          show Steps p.tables e below (T12.setTop (mkF m 111 #[.val (.ref a1), .val (.long bits), .second, .val (.long sg), .second, .val (.int ee), .val (.long ff), .second, .val (.int (ee - (1023 : Int32))), .unset, .unset, .unset] [(.int ((1 : Int32) - bi)), (.int (ee - (1023 : Int32)))])) _
          exact k)
        by_cases h4 : ee - 1023 < 1 - bi
        · skip
          have pre14 : ∀ t, Steps p.tables e below (T12.setTop (mkF m 139 #[.val (.ref a1), .val (.long bits), .second, .val (.long sg), .second, .val (.int ee), .val (.long ff), .second, .val (.int (ee - (1023 : Int32))), .unset, .unset, .unset] [(.ref a1)])) t → Steps p.tables e below (s₁.setTop (entryFrame m #[(.ref a1), (.long bits)] 12)) t := fun t k => pre13 t (by
            show Steps p.tables e below (T12.setTop (mkF m 111 #[.val (.ref a1), .val (.long bits), .second, .val (.long sg), .second, .val (.int ee), .val (.long ff), .second, .val (.int (ee - (1023 : Int32))), .unset, .unset, .unset] [(.int ((1 : Int32) - bi)), (.int (ee - (1023 : Int32)))])) _
            refine XS.icmpYes X12.here hx rfl (pc0 := 111) (pc' := 138) rfl (hb hby dna_111) rfl (XT.ii_lt_t h4) (by decide) (by decide) ?_
            show Steps p.tables e below (T12.setTop (mkF m 138 #[.val (.ref a1), .val (.long bits), .second, .val (.long sg), .second, .val (.int ee), .val (.long ff), .second, .val (.int (ee - (1023 : Int32))), .unset, .unset, .unset] [])) _
            refine XS.aloadN X12.here hx rfl (hb hby dna_138) rfl rfl ?_
            show Steps p.tables e below (T12.setTop (mkF m 139 #[.val (.ref a1), .val (.long bits), .second, .val (.long sg), .second, .val (.int ee), .val (.long ff), .second, .val (.int (ee - (1023 : Int32))), .unset, .unset, .unset] [(.ref a1)])) _
            exact k)
          obtain ⟨T15, X15, e15, st15⟩ := getF X12 hx hZ hown (host := "") (Or.inl (hw _ (List.mem_of_getElem? (i := 17) rfl))) Via.refl e12 F_dr (g := (mkF m 139 #[.val (.ref a1), .val (.long bits), .second, .val (.long sg), .second, .val (.int ee), .val (.long ff), .second, .val (.int (ee - (1023 : Int32))), .unset, .unset, .unset] [(.ref a1)])) rfl rfl (hb hby dna_139)
          have pre16 : ∀ t, Steps p.tables e below (T15.setTop (mkF m 144 #[.val (.ref a1), .val (.long bits), .second, .val (.long sg), .second, .val (.int ee), .val (.long ff), .second, .val (.int (ee - (1023 : Int32))), .unset, .unset, .unset] [(.ref a1), (.int (1 : Int32)), (.int dr)])) t → Steps p.tables e below (s₁.setTop (entryFrame m #[(.ref a1), (.long bits)] 12)) t := fun t k => pre14 t (by
            show Steps p.tables e below (T12.setTop (mkF m 139 #[.val (.ref a1), .val (.long bits), .second, .val (.long sg), .second, .val (.int ee), .val (.long ff), .second, .val (.int (ee - (1023 : Int32))), .unset, .unset, .unset] [(.ref a1)])) _
            refine st15 _ ?_
            show Steps p.tables e below (T15.setTop (mkF m 142 #[.val (.ref a1), .val (.long bits), .second, .val (.long sg), .second, .val (.int ee), .val (.long ff), .second, .val (.int (ee - (1023 : Int32))), .unset, .unset, .unset] [(.int dr)])) _
            refine XS.iconst X15.here hx rfl (hb hby dna_142) ?_
            show Steps p.tables e below (T15.setTop (mkF m 143 #[.val (.ref a1), .val (.long bits), .second, .val (.long sg), .second, .val (.int ee), .val (.long ff), .second, .val (.int (ee - (1023 : Int32))), .unset, .unset, .unset] [(.int (1 : Int32)), (.int dr)])) _
            refine XS.aloadN X15.here hx rfl (hb hby dna_143) rfl rfl ?_
            show Steps p.tables e below (T15.setTop (mkF m 144 #[.val (.ref a1), .val (.long bits), .second, .val (.long sg), .second, .val (.int ee), .val (.long ff), .second, .val (.int (ee - (1023 : Int32))), .unset, .unset, .unset] [(.ref a1), (.int (1 : Int32)), (.int dr)])) _
            exact k)
          obtain ⟨T17, X17, e17, st17⟩ := getF X15 hx hZ hown (host := "") (Or.inl (hw _ (List.mem_of_getElem? (i := 15) rfl))) Via.refl e15 F_bi (g := (mkF m 144 #[.val (.ref a1), .val (.long bits), .second, .val (.long sg), .second, .val (.int ee), .val (.long ff), .second, .val (.int (ee - (1023 : Int32))), .unset, .unset, .unset] [(.ref a1), (.int (1 : Int32)), (.int dr)])) rfl rfl (hb hby dna_144)
          have pre18 : ∀ t, Steps p.tables e below (T17.setTop (mkF m 166 #[.val (.ref a1), .val (.long bits), .second, .val (.long sg), .second, .val (.int ee), .val (.long ff), .second, .val (.int (ee - (1023 : Int32))), .val (.int (dr + (((1 : Int32) - bi) - (ee - (1023 : Int32))))), .val (.long ((4503599627370496 : Int64) ||| ff)), .second] [(.int (64 : Int32)), (.int (dr + (((1 : Int32) - bi) - (ee - (1023 : Int32)))))])) t → Steps p.tables e below (s₁.setTop (entryFrame m #[(.ref a1), (.long bits)] 12)) t := fun t k => pre16 t (by
            show Steps p.tables e below (T15.setTop (mkF m 144 #[.val (.ref a1), .val (.long bits), .second, .val (.long sg), .second, .val (.int ee), .val (.long ff), .second, .val (.int (ee - (1023 : Int32))), .unset, .unset, .unset] [(.ref a1), (.int (1 : Int32)), (.int dr)])) _
            refine st17 _ ?_
            show Steps p.tables e below (T17.setTop (mkF m 147 #[.val (.ref a1), .val (.long bits), .second, .val (.long sg), .second, .val (.int ee), .val (.long ff), .second, .val (.int (ee - (1023 : Int32))), .unset, .unset, .unset] [(.int bi), (.int (1 : Int32)), (.int dr)])) _
            refine XS.isub X17.here hx rfl (hb hby dna_147) rfl ?_
            show Steps p.tables e below (T17.setTop (mkF m 148 #[.val (.ref a1), .val (.long bits), .second, .val (.long sg), .second, .val (.int ee), .val (.long ff), .second, .val (.int (ee - (1023 : Int32))), .unset, .unset, .unset] [(.int ((1 : Int32) - bi)), (.int dr)])) _
            refine XS.iload X17.here hx rfl (hb hby dna_148) rfl ?_
            show Steps p.tables e below (T17.setTop (mkF m 150 #[.val (.ref a1), .val (.long bits), .second, .val (.long sg), .second, .val (.int ee), .val (.long ff), .second, .val (.int (ee - (1023 : Int32))), .unset, .unset, .unset] [(.int (ee - (1023 : Int32))), (.int ((1 : Int32) - bi)), (.int dr)])) _
            refine XS.isub X17.here hx rfl (hb hby dna_150) rfl ?_
            show Steps p.tables e below (T17.setTop (mkF m 151 #[.val (.ref a1), .val (.long bits), .second, .val (.long sg), .second, .val (.int ee), .val (.long ff), .second, .val (.int (ee - (1023 : Int32))), .unset, .unset, .unset] [(.int (((1 : Int32) - bi) - (ee - (1023 : Int32)))), (.int dr)])) _
            refine XS.iadd X17.here hx rfl (hb hby dna_151) rfl ?_
            show Steps p.tables e below (T17.setTop (mkF m 152 #[.val (.ref a1), .val (.long bits), .second, .val (.long sg), .second, .val (.int ee), .val (.long ff), .second, .val (.int (ee - (1023 : Int32))), .unset, .unset, .unset] [(.int (dr + (((1 : Int32) - bi) - (ee - (1023 : Int32)))))])) _
            refine XS.istore X17.here hx rfl (hb hby dna_152) rfl (l' := #[.val (.ref a1), .val (.long bits), .second, .val (.long sg), .second, .val (.int ee), .val (.long ff), .second, .val (.int (ee - (1023 : Int32))), .val (.int (dr + (((1 : Int32) - bi) - (ee - (1023 : Int32))))), .unset, .unset]) rfl ?_
            show Steps p.tables e below (T17.setTop (mkF m 154 #[.val (.ref a1), .val (.long bits), .second, .val (.long sg), .second, .val (.int ee), .val (.long ff), .second, .val (.int (ee - (1023 : Int32))), .val (.int (dr + (((1 : Int32) - bi) - (ee - (1023 : Int32))))), .unset, .unset] [])) _
            refine X17.ldc2J hx hown (mvT hZ (hw _ (List.mem_of_getElem? (i := 19) rfl))) rfl (hb hby dna_154) ?_
            show Steps p.tables e below (T17.setTop (mkF m 157 #[.val (.ref a1), .val (.long bits), .second, .val (.long sg), .second, .val (.int ee), .val (.long ff), .second, .val (.int (ee - (1023 : Int32))), .val (.int (dr + (((1 : Int32) - bi) - (ee - (1023 : Int32))))), .unset, .unset] [(.long (4503599627370496 : Int64))])) _
            refine XT.lload X17.here hx rfl (hb hby dna_157) rfl ?_
            show Steps p.tables e below (T17.setTop (mkF m 159 #[.val (.ref a1), .val (.long bits), .second, .val (.long sg), .second, .val (.int ee), .val (.long ff), .second, .val (.int (ee - (1023 : Int32))), .val (.int (dr + (((1 : Int32) - bi) - (ee - (1023 : Int32))))), .unset, .unset] [(.long ff), (.long (4503599627370496 : Int64))])) _
            refine XT.lor X17.here hx rfl (hb hby dna_159) rfl ?_
            show Steps p.tables e below (T17.setTop (mkF m 160 #[.val (.ref a1), .val (.long bits), .second, .val (.long sg), .second, .val (.int ee), .val (.long ff), .second, .val (.int (ee - (1023 : Int32))), .val (.int (dr + (((1 : Int32) - bi) - (ee - (1023 : Int32))))), .unset, .unset] [(.long ((4503599627370496 : Int64) ||| ff))])) _
            refine XT.lstore X17.here hx rfl (hb hby dna_160) rfl (l' := #[.val (.ref a1), .val (.long bits), .second, .val (.long sg), .second, .val (.int ee), .val (.long ff), .second, .val (.int (ee - (1023 : Int32))), .val (.int (dr + (((1 : Int32) - bi) - (ee - (1023 : Int32))))), .val (.long ((4503599627370496 : Int64) ||| ff)), .second]) rfl ?_
            show Steps p.tables e below (T17.setTop (mkF m 162 #[.val (.ref a1), .val (.long bits), .second, .val (.long sg), .second, .val (.int ee), .val (.long ff), .second, .val (.int (ee - (1023 : Int32))), .val (.int (dr + (((1 : Int32) - bi) - (ee - (1023 : Int32))))), .val (.long ((4503599627370496 : Int64) ||| ff)), .second] [])) _
            refine XS.iload X17.here hx rfl (hb hby dna_162) rfl ?_
            show Steps p.tables e below (T17.setTop (mkF m 164 #[.val (.ref a1), .val (.long bits), .second, .val (.long sg), .second, .val (.int ee), .val (.long ff), .second, .val (.int (ee - (1023 : Int32))), .val (.int (dr + (((1 : Int32) - bi) - (ee - (1023 : Int32))))), .val (.long ((4503599627370496 : Int64) ||| ff)), .second] [(.int (dr + (((1 : Int32) - bi) - (ee - (1023 : Int32)))))])) _
            refine XS.bipush X17.here hx rfl (hb hby dna_164) ?_
            show Steps p.tables e below (T17.setTop (mkF m 166 #[.val (.ref a1), .val (.long bits), .second, .val (.long sg), .second, .val (.int ee), .val (.long ff), .second, .val (.int (ee - (1023 : Int32))), .val (.int (dr + (((1 : Int32) - bi) - (ee - (1023 : Int32))))), .val (.long ((4503599627370496 : Int64) ||| ff)), .second] [(.int (64 : Int32)), (.int (dr + (((1 : Int32) - bi) - (ee - (1023 : Int32)))))])) _
            exact k)
          by_cases h5 : dr + (1 - bi - (ee - 1023)) < 64
          · skip
            have hf : own_nar ss bi dr sp fr (XT.ushrL bits (63 : Int32) <<< (ss.toInt64 &&& 63)) ((XT.ushrL bits (52 : Int32)).toInt32 &&& (2047 : Int32)) (bits &&& (4503599627370495 : Int64)) = (sg ||| (XT.ushrL ((4503599627370496 : Int64) ||| ff) (dr + (((1 : Int32) - bi) - (ee - (1023 : Int32)))))) := by rw [hsg, hee, hff]; unfold own_nar; rw [if_neg h1, if_neg h2, if_neg h3, if_pos h4, if_pos h5]
            have pre19 : ∀ t, Steps p.tables e below (T17.setTop (mkF m 180 #[.val (.ref a1), .val (.long bits), .second, .val (.long sg), .second, .val (.int ee), .val (.long ff), .second, .val (.int (ee - (1023 : Int32))), .val (.int (dr + (((1 : Int32) - bi) - (ee - (1023 : Int32))))), .val (.long ((4503599627370496 : Int64) ||| ff)), .second] [(.long (sg ||| (XT.ushrL ((4503599627370496 : Int64) ||| ff) (dr + (((1 : Int32) - bi) - (ee - (1023 : Int32)))))))])) t → Steps p.tables e below (s₁.setTop (entryFrame m #[(.ref a1), (.long bits)] 12)) t := fun t k => pre18 t (by
              show Steps p.tables e below (T17.setTop (mkF m 166 #[.val (.ref a1), .val (.long bits), .second, .val (.long sg), .second, .val (.int ee), .val (.long ff), .second, .val (.int (ee - (1023 : Int32))), .val (.int (dr + (((1 : Int32) - bi) - (ee - (1023 : Int32))))), .val (.long ((4503599627370496 : Int64) ||| ff)), .second] [(.int (64 : Int32)), (.int (dr + (((1 : Int32) - bi) - (ee - (1023 : Int32)))))])) _
              refine XS.icmpYes X17.here hx rfl (pc0 := 166) (pc' := 173) rfl (hb hby dna_166) rfl (XT.ii_lt_t h5) (by decide) (by decide) ?_
              show Steps p.tables e below (T17.setTop (mkF m 173 #[.val (.ref a1), .val (.long bits), .second, .val (.long sg), .second, .val (.int ee), .val (.long ff), .second, .val (.int (ee - (1023 : Int32))), .val (.int (dr + (((1 : Int32) - bi) - (ee - (1023 : Int32))))), .val (.long ((4503599627370496 : Int64) ||| ff)), .second] [])) _
              refine XT.lloadN X17.here hx rfl (hb hby dna_173) rfl ?_
              show Steps p.tables e below (T17.setTop (mkF m 174 #[.val (.ref a1), .val (.long bits), .second, .val (.long sg), .second, .val (.int ee), .val (.long ff), .second, .val (.int (ee - (1023 : Int32))), .val (.int (dr + (((1 : Int32) - bi) - (ee - (1023 : Int32))))), .val (.long ((4503599627370496 : Int64) ||| ff)), .second] [(.long sg)])) _
              refine XT.lload X17.here hx rfl (hb hby dna_174) rfl ?_
              show Steps p.tables e below (T17.setTop (mkF m 176 #[.val (.ref a1), .val (.long bits), .second, .val (.long sg), .second, .val (.int ee), .val (.long ff), .second, .val (.int (ee - (1023 : Int32))), .val (.int (dr + (((1 : Int32) - bi) - (ee - (1023 : Int32))))), .val (.long ((4503599627370496 : Int64) ||| ff)), .second] [(.long ((4503599627370496 : Int64) ||| ff)), (.long sg)])) _
              refine XS.iload X17.here hx rfl (hb hby dna_176) rfl ?_
              show Steps p.tables e below (T17.setTop (mkF m 178 #[.val (.ref a1), .val (.long bits), .second, .val (.long sg), .second, .val (.int ee), .val (.long ff), .second, .val (.int (ee - (1023 : Int32))), .val (.int (dr + (((1 : Int32) - bi) - (ee - (1023 : Int32))))), .val (.long ((4503599627370496 : Int64) ||| ff)), .second] [(.int (dr + (((1 : Int32) - bi) - (ee - (1023 : Int32))))), (.long ((4503599627370496 : Int64) ||| ff)), (.long sg)])) _
              refine XT.lushr X17.here hx rfl (hb hby dna_178) rfl ?_
              show Steps p.tables e below (T17.setTop (mkF m 179 #[.val (.ref a1), .val (.long bits), .second, .val (.long sg), .second, .val (.int ee), .val (.long ff), .second, .val (.int (ee - (1023 : Int32))), .val (.int (dr + (((1 : Int32) - bi) - (ee - (1023 : Int32))))), .val (.long ((4503599627370496 : Int64) ||| ff)), .second] [(.long (XT.ushrL ((4503599627370496 : Int64) ||| ff) (dr + (((1 : Int32) - bi) - (ee - (1023 : Int32)))))), (.long sg)])) _
              refine XT.lor X17.here hx rfl (hb hby dna_179) rfl ?_
              show Steps p.tables e below (T17.setTop (mkF m 180 #[.val (.ref a1), .val (.long bits), .second, .val (.long sg), .second, .val (.int ee), .val (.long ff), .second, .val (.int (ee - (1023 : Int32))), .val (.int (dr + (((1 : Int32) - bi) - (ee - (1023 : Int32))))), .val (.long ((4503599627370496 : Int64) ||| ff)), .second] [(.long (sg ||| (XT.ushrL ((4503599627370496 : Int64) ||| ff) (dr + (((1 : Int32) - bi) - (ee - (1023 : Int32)))))))])) _
              exact k)
            obtain ⟨fs, hr, hrun, hended, hW, hsame⟩ := X17.leave (v := some (.long (sg ||| (XT.ushrL ((4503599627370496 : Int64) ||| ff) (dr + (((1 : Int32) - bi) - (ee - (1023 : Int32)))))))) (fun h => by rw [Bd.returns] at h; cases h)
            refine ⟨_, _, pre19 _ ?_, hrun, hended, _, _, rfl, ?_, ⟨_, rfl⟩, hW, hsame.mono (by decide) (by decide)⟩
            · exact X17.lreturnOut hx Bd.returns (hb hby dna_180) hr
            · show Q_na Z a1 dA bits ss bi dr sp fr h0 n0 _ T17.heap _
              unfold Q_na; rw [hf]
              rw [e17]
              exact ⟨rfl, N0, rfl⟩
          · skip
            have hf : own_nar ss bi dr sp fr (XT.ushrL bits (63 : Int32) <<< (ss.toInt64 &&& 63)) ((XT.ushrL bits (52 : Int32)).toInt32 &&& (2047 : Int32)) (bits &&& (4503599627370495 : Int64)) = sg := by rw [hsg, hee, hff]; unfold own_nar; rw [if_neg h1, if_neg h2, if_neg h3, if_pos h4, if_neg h5]
            have pre19 : ∀ t, Steps p.tables e below (T17.setTop (mkF m 180 #[.val (.ref a1), .val (.long bits), .second, .val (.long sg), .second, .val (.int ee), .val (.long ff), .second, .val (.int (ee - (1023 : Int32))), .val (.int (dr + (((1 : Int32) - bi) - (ee - (1023 : Int32))))), .val (.long ((4503599627370496 : Int64) ||| ff)), .second] [(.long sg)])) t → Steps p.tables e below (s₁.setTop (entryFrame m #[(.ref a1), (.long bits)] 12)) t := fun t k => pre18 t (by
              show Steps p.tables e below (T17.setTop (mkF m 166 #[.val (.ref a1), .val (.long bits), .second, .val (.long sg), .second, .val (.int ee), .val (.long ff), .second, .val (.int (ee - (1023 : Int32))), .val (.int (dr + (((1 : Int32) - bi) - (ee - (1023 : Int32))))), .val (.long ((4503599627370496 : Int64) ||| ff)), .second] [(.int (64 : Int32)), (.int (dr + (((1 : Int32) - bi) - (ee - (1023 : Int32)))))])) _
              refine XS.icmpNo X17.here hx rfl (hb hby dna_166) rfl (XT.ii_lt_f h5) ?_
              show Steps p.tables e below (T17.setTop (mkF m 169 #[.val (.ref a1), .val (.long bits), .second, .val (.long sg), .second, .val (.int ee), .val (.long ff), .second, .val (.int (ee - (1023 : Int32))), .val (.int (dr + (((1 : Int32) - bi) - (ee - (1023 : Int32))))), .val (.long ((4503599627370496 : Int64) ||| ff)), .second] [])) _
              refine XT.lloadN X17.here hx rfl (hb hby dna_169) rfl ?_
              show Steps p.tables e below (T17.setTop (mkF m 170 #[.val (.ref a1), .val (.long bits), .second, .val (.long sg), .second, .val (.int ee), .val (.long ff), .second, .val (.int (ee - (1023 : Int32))), .val (.int (dr + (((1 : Int32) - bi) - (ee - (1023 : Int32))))), .val (.long ((4503599627370496 : Int64) ||| ff)), .second] [(.long sg)])) _
              refine XS.goto X17.here hx rfl (pc0 := 170) (pc' := 180) rfl (hb hby dna_170) (by decide) (by decide) ?_
              show Steps p.tables e below (T17.setTop (mkF m 180 #[.val (.ref a1), .val (.long bits), .second, .val (.long sg), .second, .val (.int ee), .val (.long ff), .second, .val (.int (ee - (1023 : Int32))), .val (.int (dr + (((1 : Int32) - bi) - (ee - (1023 : Int32))))), .val (.long ((4503599627370496 : Int64) ||| ff)), .second] [(.long sg)])) _
              exact k)
            obtain ⟨fs, hr, hrun, hended, hW, hsame⟩ := X17.leave (v := some (.long sg)) (fun h => by rw [Bd.returns] at h; cases h)
            refine ⟨_, _, pre19 _ ?_, hrun, hended, _, _, rfl, ?_, ⟨_, rfl⟩, hW, hsame.mono (by decide) (by decide)⟩
            · exact X17.lreturnOut hx Bd.returns (hb hby dna_180) hr
            · show Q_na Z a1 dA bits ss bi dr sp fr h0 n0 _ T17.heap _
              unfold Q_na; rw [hf]
              rw [e17]
              exact ⟨rfl, N0, rfl⟩
        · skip
          have pre14 : ∀ t, Steps p.tables e below (T12.setTop (mkF m 118 #[.val (.ref a1), .val (.long bits), .second, .val (.long sg), .second, .val (.int ee), .val (.long ff), .second, .val (.int (ee - (1023 : Int32))), .unset, .unset, .unset] [(.ref a1), (.int (ee - (1023 : Int32))), (.long sg)])) t → Steps p.tables e below (s₁.setTop (entryFrame m #[(.ref a1), (.long bits)] 12)) t := fun t k => pre13 t (by
            show Steps p.tables e below (T12.setTop (mkF m 111 #[.val (.ref a1), .val (.long bits), .second, .val (.long sg), .second, .val (.int ee), .val (.long ff), .second, .val (.int (ee - (1023 : Int32))), .unset, .unset, .unset] [(.int ((1 : Int32) - bi)), (.int (ee - (1023 : Int32)))])) _
            refine XS.icmpNo X12.here hx rfl (hb hby dna_111) rfl (XT.ii_lt_f h4) ?_
            show Steps p.tables e below (T12.setTop (mkF m 114 #[.val (.ref a1), .val (.long bits), .second, .val (.long sg), .second, .val (.int ee), .val (.long ff), .second, .val (.int (ee - (1023 : Int32))), .unset, .unset, .unset] [])) _
            refine XT.lloadN X12.here hx rfl (hb hby dna_114) rfl ?_
            show Steps p.tables e below (T12.setTop (mkF m 115 #[.val (.ref a1), .val (.long bits), .second, .val (.long sg), .second, .val (.int ee), .val (.long ff), .second, .val (.int (ee - (1023 : Int32))), .unset, .unset, .unset] [(.long sg)])) _
            refine XS.iload X12.here hx rfl (hb hby dna_115) rfl ?_
            show Steps p.tables e below (T12.setTop (mkF m 117 #[.val (.ref a1), .val (.long bits), .second, .val (.long sg), .second, .val (.int ee), .val (.long ff), .second, .val (.int (ee - (1023 : Int32))), .unset, .unset, .unset] [(.int (ee - (1023 : Int32))), (.long sg)])) _
            refine XS.aloadN X12.here hx rfl (hb hby dna_117) rfl rfl ?_
            show Steps p.tables e below (T12.setTop (mkF m 118 #[.val (.ref a1), .val (.long bits), .second, .val (.long sg), .second, .val (.int ee), .val (.long ff), .second, .val (.int (ee - (1023 : Int32))), .unset, .unset, .unset] [(.ref a1), (.int (ee - (1023 : Int32))), (.long sg)])) _
            exact k)
          obtain ⟨T15, X15, e15, st15⟩ := getF X12 hx hZ hown (host := "") (Or.inl (hw _ (List.mem_of_getElem? (i := 15) rfl))) Via.refl e12 F_bi (g := (mkF m 118 #[.val (.ref a1), .val (.long bits), .second, .val (.long sg), .second, .val (.int ee), .val (.long ff), .second, .val (.int (ee - (1023 : Int32))), .unset, .unset, .unset] [(.ref a1), (.int (ee - (1023 : Int32))), (.long sg)])) rfl rfl (hb hby dna_118)
          have pre16 : ∀ t, Steps p.tables e below (T15.setTop (mkF m 124 #[.val (.ref a1), .val (.long bits), .second, .val (.long sg), .second, .val (.int ee), .val (.long ff), .second, .val (.int (ee - (1023 : Int32))), .unset, .unset, .unset] [(.ref a1), (.long (((ee - (1023 : Int32)) + bi).toInt64)), (.long sg)])) t → Steps p.tables e below (s₁.setTop (entryFrame m #[(.ref a1), (.long bits)] 12)) t := fun t k => pre14 t (by
            show Steps p.tables e below (T12.setTop (mkF m 118 #[.val (.ref a1), .val (.long bits), .second, .val (.long sg), .second, .val (.int ee), .val (.long ff), .second, .val (.int (ee - (1023 : Int32))), .unset, .unset, .unset] [(.ref a1), (.int (ee - (1023 : Int32))), (.long sg)])) _
            refine st15 _ ?_
            show Steps p.tables e below (T15.setTop (mkF m 121 #[.val (.ref a1), .val (.long bits), .second, .val (.long sg), .second, .val (.int ee), .val (.long ff), .second, .val (.int (ee - (1023 : Int32))), .unset, .unset, .unset] [(.int bi), (.int (ee - (1023 : Int32))), (.long sg)])) _
            refine XS.iadd X15.here hx rfl (hb hby dna_121) rfl ?_
            show Steps p.tables e below (T15.setTop (mkF m 122 #[.val (.ref a1), .val (.long bits), .second, .val (.long sg), .second, .val (.int ee), .val (.long ff), .second, .val (.int (ee - (1023 : Int32))), .unset, .unset, .unset] [(.int ((ee - (1023 : Int32)) + bi)), (.long sg)])) _
            refine XT.i2l X15.here hx rfl (hb hby dna_122) rfl ?_
            show Steps p.tables e below (T15.setTop (mkF m 123 #[.val (.ref a1), .val (.long bits), .second, .val (.long sg), .second, .val (.int ee), .val (.long ff), .second, .val (.int (ee - (1023 : Int32))), .unset, .unset, .unset] [(.long (((ee - (1023 : Int32)) + bi).toInt64)), (.long sg)])) _
            refine XS.aloadN X15.here hx rfl (hb hby dna_123) rfl rfl ?_
            show Steps p.tables e below (T15.setTop (mkF m 124 #[.val (.ref a1), .val (.long bits), .second, .val (.long sg), .second, .val (.int ee), .val (.long ff), .second, .val (.int (ee - (1023 : Int32))), .unset, .unset, .unset] [(.ref a1), (.long (((ee - (1023 : Int32)) + bi).toInt64)), (.long sg)])) _
            exact k)
          obtain ⟨T17, X17, e17, st17⟩ := getF X15 hx hZ hown (host := "") (Or.inl (hw _ (List.mem_of_getElem? (i := 31) rfl))) Via.refl e15 F_fr (g := (mkF m 124 #[.val (.ref a1), .val (.long bits), .second, .val (.long sg), .second, .val (.int ee), .val (.long ff), .second, .val (.int (ee - (1023 : Int32))), .unset, .unset, .unset] [(.ref a1), (.long (((ee - (1023 : Int32)) + bi).toInt64)), (.long sg)])) rfl rfl (hb hby dna_124)
          have pre18 : ∀ t, Steps p.tables e below (T17.setTop (mkF m 132 #[.val (.ref a1), .val (.long bits), .second, .val (.long sg), .second, .val (.int ee), .val (.long ff), .second, .val (.int (ee - (1023 : Int32))), .unset, .unset, .unset] [(.ref a1), (.long ff), (.long (sg ||| ((((ee - (1023 : Int32)) + bi).toInt64) <<< (fr.toInt64 &&& 63))))])) t → Steps p.tables e below (s₁.setTop (entryFrame m #[(.ref a1), (.long bits)] 12)) t := fun t k => pre16 t (by
            show Steps p.tables e below (T15.setTop (mkF m 124 #[.val (.ref a1), .val (.long bits), .second, .val (.long sg), .second, .val (.int ee), .val (.long ff), .second, .val (.int (ee - (1023 : Int32))), .unset, .unset, .unset] [(.ref a1), (.long (((ee - (1023 : Int32)) + bi).toInt64)), (.long sg)])) _
            refine st17 _ ?_
            show Steps p.tables e below (T17.setTop (mkF m 127 #[.val (.ref a1), .val (.long bits), .second, .val (.long sg), .second, .val (.int ee), .val (.long ff), .second, .val (.int (ee - (1023 : Int32))), .unset, .unset, .unset] [(.int fr), (.long (((ee - (1023 : Int32)) + bi).toInt64)), (.long sg)])) _
            refine XT.lshl X17.here hx rfl (hb hby dna_127) rfl ?_
            show Steps p.tables e below (T17.setTop (mkF m 128 #[.val (.ref a1), .val (.long bits), .second, .val (.long sg), .second, .val (.int ee), .val (.long ff), .second, .val (.int (ee - (1023 : Int32))), .unset, .unset, .unset] [(.long ((((ee - (1023 : Int32)) + bi).toInt64) <<< (fr.toInt64 &&& 63))), (.long sg)])) _
            refine XT.lor X17.here hx rfl (hb hby dna_128) rfl ?_
            show Steps p.tables e below (T17.setTop (mkF m 129 #[.val (.ref a1), .val (.long bits), .second, .val (.long sg), .second, .val (.int ee), .val (.long ff), .second, .val (.int (ee - (1023 : Int32))), .unset, .unset, .unset] [(.long (sg ||| ((((ee - (1023 : Int32)) + bi).toInt64) <<< (fr.toInt64 &&& 63))))])) _
            refine XT.lload X17.here hx rfl (hb hby dna_129) rfl ?_
            show Steps p.tables e below (T17.setTop (mkF m 131 #[.val (.ref a1), .val (.long bits), .second, .val (.long sg), .second, .val (.int ee), .val (.long ff), .second, .val (.int (ee - (1023 : Int32))), .unset, .unset, .unset] [(.long ff), (.long (sg ||| ((((ee - (1023 : Int32)) + bi).toInt64) <<< (fr.toInt64 &&& 63))))])) _
            refine XS.aloadN X17.here hx rfl (hb hby dna_131) rfl rfl ?_
            show Steps p.tables e below (T17.setTop (mkF m 132 #[.val (.ref a1), .val (.long bits), .second, .val (.long sg), .second, .val (.int ee), .val (.long ff), .second, .val (.int (ee - (1023 : Int32))), .unset, .unset, .unset] [(.ref a1), (.long ff), (.long (sg ||| ((((ee - (1023 : Int32)) + bi).toInt64) <<< (fr.toInt64 &&& 63))))])) _
            exact k)
          obtain ⟨T19, X19, e19, st19⟩ := getF X17 hx hZ hown (host := "") (Or.inl (hw _ (List.mem_of_getElem? (i := 17) rfl))) Via.refl e17 F_dr (g := (mkF m 132 #[.val (.ref a1), .val (.long bits), .second, .val (.long sg), .second, .val (.int ee), .val (.long ff), .second, .val (.int (ee - (1023 : Int32))), .unset, .unset, .unset] [(.ref a1), (.long ff), (.long (sg ||| ((((ee - (1023 : Int32)) + bi).toInt64) <<< (fr.toInt64 &&& 63))))])) rfl rfl (hb hby dna_132)
          have hf : own_nar ss bi dr sp fr (XT.ushrL bits (63 : Int32) <<< (ss.toInt64 &&& 63)) ((XT.ushrL bits (52 : Int32)).toInt32 &&& (2047 : Int32)) (bits &&& (4503599627370495 : Int64)) = ((sg ||| ((((ee - (1023 : Int32)) + bi).toInt64) <<< (fr.toInt64 &&& 63))) ||| (XT.ushrL ff dr)) := by rw [hsg, hee, hff]; unfold own_nar; rw [if_neg h1, if_neg h2, if_neg h3, if_neg h4]
          have pre20 : ∀ t, Steps p.tables e below (T19.setTop (mkF m 137 #[.val (.ref a1), .val (.long bits), .second, .val (.long sg), .second, .val (.int ee), .val (.long ff), .second, .val (.int (ee - (1023 : Int32))), .unset, .unset, .unset] [(.long ((sg ||| ((((ee - (1023 : Int32)) + bi).toInt64) <<< (fr.toInt64 &&& 63))) ||| (XT.ushrL ff dr)))])) t → Steps p.tables e below (s₁.setTop (entryFrame m #[(.ref a1), (.long bits)] 12)) t := fun t k => pre18 t (by
            show Steps p.tables e below (T17.setTop (mkF m 132 #[.val (.ref a1), .val (.long bits), .second, .val (.long sg), .second, .val (.int ee), .val (.long ff), .second, .val (.int (ee - (1023 : Int32))), .unset, .unset, .unset] [(.ref a1), (.long ff), (.long (sg ||| ((((ee - (1023 : Int32)) + bi).toInt64) <<< (fr.toInt64 &&& 63))))])) _
            refine st19 _ ?_
            show Steps p.tables e below (T19.setTop (mkF m 135 #[.val (.ref a1), .val (.long bits), .second, .val (.long sg), .second, .val (.int ee), .val (.long ff), .second, .val (.int (ee - (1023 : Int32))), .unset, .unset, .unset] [(.int dr), (.long ff), (.long (sg ||| ((((ee - (1023 : Int32)) + bi).toInt64) <<< (fr.toInt64 &&& 63))))])) _
            refine XT.lushr X19.here hx rfl (hb hby dna_135) rfl ?_
            show Steps p.tables e below (T19.setTop (mkF m 136 #[.val (.ref a1), .val (.long bits), .second, .val (.long sg), .second, .val (.int ee), .val (.long ff), .second, .val (.int (ee - (1023 : Int32))), .unset, .unset, .unset] [(.long (XT.ushrL ff dr)), (.long (sg ||| ((((ee - (1023 : Int32)) + bi).toInt64) <<< (fr.toInt64 &&& 63))))])) _
            refine XT.lor X19.here hx rfl (hb hby dna_136) rfl ?_
            show Steps p.tables e below (T19.setTop (mkF m 137 #[.val (.ref a1), .val (.long bits), .second, .val (.long sg), .second, .val (.int ee), .val (.long ff), .second, .val (.int (ee - (1023 : Int32))), .unset, .unset, .unset] [(.long ((sg ||| ((((ee - (1023 : Int32)) + bi).toInt64) <<< (fr.toInt64 &&& 63))) ||| (XT.ushrL ff dr)))])) _
            exact k)
          obtain ⟨fs, hr, hrun, hended, hW, hsame⟩ := X19.leave (v := some (.long ((sg ||| ((((ee - (1023 : Int32)) + bi).toInt64) <<< (fr.toInt64 &&& 63))) ||| (XT.ushrL ff dr)))) (fun h => by rw [Bd.returns] at h; cases h)
          refine ⟨_, _, pre20 _ ?_, hrun, hended, _, _, rfl, ?_, ⟨_, rfl⟩, hW, hsame.mono (by decide) (by decide)⟩
          · exact X19.lreturnOut hx Bd.returns (hb hby dna_137) hr
          · show Q_na Z a1 dA bits ss bi dr sp fr h0 n0 _ T19.heap _
            unfold Q_na; rw [hf]
            rw [e19]
            exact ⟨rfl, N0, rfl⟩
theorem dnd_0 : decode prog_23_method_8_code 0 = .ok (.aload_n 0, 1) := by decide +kernel
theorem dnd_1 : decode prog_23_method_8_code 1 = .ok (.getstatic 10, 3) := by decide +kernel
theorem dnd_4 : decode prog_23_method_8_code 4 = .ok (.if_acmp .ne 5, 3) := by decide +kernel
theorem dnd_7 : decode prog_23_method_8_code 7 = .ok (.lload_n 1, 1) := by decide +kernel
theorem dnd_8 : decode prog_23_method_8_code 8 = .ok (.lreturn, 1) := by decide +kernel
theorem pn_nd : plainName "com/example/samewire/samewire/FloatFormat" = true := by first | (simp [plainName, overriddenIn]; done) | decide +kernel
theorem ef_nd (m : MethodId) (a1 : Addr) (bits : Int64) : entryFrame m #[(.ref a1), (.long bits)] 12 = (mkF m 0 #[.val (.ref a1), .val (.long bits), .second, .unset, .unset, .unset, .unset, .unset, .unset, .unset, .unset, .unset] []) := by first | (simp [entryFrame, mkF, argsToLocals, Value.category]; done) | rfl
def Q_nd (Z : State) (a1 : Addr) (bits : Int64) (h0 : Heap) (n0 : Nat) (v : Option Value) (h : Heap) (L : List Loc) : Prop := v = some (.long bits) ∧ Fr n0 L ∧ h = h0
set_option maxRecDepth 65536 in
set_option maxHeartbeats 40000000 in
theorem rm_nd (l : Launch) (Z : State) (a0 : Array Value) (hw : ∀ d ∈ tables_1, d.before a0 Z = true) (ws : List Jvm.Cond) (a1 : Addr) (bits : Int64) (h0 : Heap) (n0 : Nat) (Z0 : n0 ≤ h0.size) (SD : Sta Z h0 "com/example/samewire/samewire/FloatFormat" "DOUBLE" "Lcom/example/samewire/samewire/FloatFormat;" (.ref a1)) :
    MetFree l (⟨"com/example/samewire/samewire/FloatFormat", "narrow", "(J)J"⟩ : MethodName) (head1 (Jvm.Cond.code (⟨"com/example/samewire/samewire/FloatFormat", "narrow", "(J)J"⟩ : MethodName) prog_23_method_8_code 12 (some .long) :: ws) ({ frames := 0, cells := 0, slots := 0, locals := 0 } : Room)) (fun a U => a = #[(.ref a1), (.long bits)] ∧ Z.Warmed39 U.vm ∧ U.heap = h0) (fun _ _ _ _ _ => True) (fun _ U o U' => ∃ v L, o = .returned v ∧ Q_nd Z a1 bits h0 n0 v U'.heap L ∧ FrameEnd U o U' L ({ frames := 0, cells := 0, slots := 0, locals := 0 } : Room).cells ({ frames := 0, cells := 0, slots := 0, locals := 0 } : Room).slots) := by
  refine MetFree.of_bodySF (plainFor_of_name pn_nd) hisR ?_
  intro p e s m args below meth c s₁ Bd hml0 hP hK
  obtain ⟨rfl, hZ, hh⟩ := hP
  have hx := Bd.exec
  have hby := Bd.bytes
  have hml : c.maxLocals = 12 := hml0
  have hown : s.vm.findClass "com/example/samewire/samewire/FloatFormat" = some m.cls := findClass_of_methodNamed Bd.named
  have hnm := (name_of_methodNamed Bd.named Bd.method).1
  have X0 : Stand p l e ({ frames := 0, cells := 0, slots := 0, locals := 0 } : Room) s m #[(.ref a1), (.long bits)] below meth c s₁ [] 0 0 := Stand.of_body Bd
  have e0 : s₁.heap = h0 := by rw [← hh, Bd.state]; rfl
  have N0 := Fr.nil n0
  have pre0 : ∀ t, Steps p.tables e below (s₁.setTop (mkF m 0 #[.val (.ref a1), .val (.long bits), .second, .unset, .unset, .unset, .unset, .unset, .unset, .unset, .unset, .unset] [])) t → Steps p.tables e below (s₁.setTop (entryFrame m #[(.ref a1), (.long bits)] 12)) t := fun t k => castTop (ef_nd m a1 bits) k
  have pre2 : ∀ t, Steps p.tables e below (s₁.setTop (mkF m 1 #[.val (.ref a1), .val (.long bits), .second, .unset, .unset, .unset, .unset, .unset, .unset, .unset, .unset, .unset] [(.ref a1)])) t → Steps p.tables e below (s₁.setTop (entryFrame m #[(.ref a1), (.long bits)] 12)) t := fun t k => pre0 t (by
    show Steps p.tables e below (s₁.setTop (mkF m 0 #[.val (.ref a1), .val (.long bits), .second, .unset, .unset, .unset, .unset, .unset, .unset, .unset, .unset, .unset] [])) _
    refine XS.aloadN X0.here hx rfl (hb hby dnd_0) rfl rfl ?_
    show Steps p.tables e below (s₁.setTop (mkF m 1 #[.val (.ref a1), .val (.long bits), .second, .unset, .unset, .unset, .unset, .unset, .unset, .unset, .unset, .unset] [(.ref a1)])) _
    exact k)
  obtain ⟨T3, X3, e3, st3⟩ := getS2 X0 hx hZ hown (host := "") (Or.inl (hw _ (List.mem_of_getElem? (i := 10) rfl))) Via.refl e0 SD (g := (mkF m 1 #[.val (.ref a1), .val (.long bits), .second, .unset, .unset, .unset, .unset, .unset, .unset, .unset, .unset, .unset] [(.ref a1)])) rfl (hb hby dnd_1)
  have pre4 : ∀ t, Steps p.tables e below (T3.setTop (mkF m 8 #[.val (.ref a1), .val (.long bits), .second, .unset, .unset, .unset, .unset, .unset, .unset, .unset, .unset, .unset] [(.long bits)])) t → Steps p.tables e below (s₁.setTop (entryFrame m #[(.ref a1), (.long bits)] 12)) t := fun t k => pre2 t (by
    show Steps p.tables e below (s₁.setTop (mkF m 1 #[.val (.ref a1), .val (.long bits), .second, .unset, .unset, .unset, .unset, .unset, .unset, .unset, .unset, .unset] [(.ref a1)])) _
    refine st3 _ ?_
    show Steps p.tables e below (T3.setTop (mkF m 4 #[.val (.ref a1), .val (.long bits), .second, .unset, .unset, .unset, .unset, .unset, .unset, .unset, .unset, .unset] [(.ref a1), (.ref a1)])) _
    refine XT.acmpNo X3.here hx rfl (hb hby dnd_4) rfl rfl rfl (XT.aa_ne_f rfl) ?_
    show Steps p.tables e below (T3.setTop (mkF m 7 #[.val (.ref a1), .val (.long bits), .second, .unset, .unset, .unset, .unset, .unset, .unset, .unset, .unset, .unset] [])) _
    refine XT.lloadN X3.here hx rfl (hb hby dnd_7) rfl ?_
    show Steps p.tables e below (T3.setTop (mkF m 8 #[.val (.ref a1), .val (.long bits), .second, .unset, .unset, .unset, .unset, .unset, .unset, .unset, .unset, .unset] [(.long bits)])) _
    exact k)
  obtain ⟨fs, hr, hrun, hended, hW, hsame⟩ := X3.leave (v := some (.long bits)) (fun h => by rw [Bd.returns] at h; cases h)
  refine ⟨_, _, pre4 _ ?_, hrun, hended, _, _, rfl, ?_, ⟨_, rfl⟩, hW, hsame.mono (by decide) (by decide)⟩
  · exact X3.lreturnOut hx Bd.returns (hb hby dnd_8) hr
  · show Q_nd Z a1 bits h0 n0 _ T3.heap _
    rw [e3]
    exact ⟨rfl, N0, rfl⟩
theorem dex2_0 : decode method_3_code 0 = .ok (.iload_n 0, 1) := by decide +kernel
theorem dex2_1 : decode method_3_code 1 = .ok (.iconst 2, 1) := by decide +kernel
theorem dex2_2 : decode method_3_code 2 = .ok (.if_icmp .ne 6, 3) := by decide +kernel
theorem dex2_5 : decode method_3_code 5 = .ok (.lload 6, 2) := by decide +kernel
theorem dex2_7 : decode method_3_code 7 = .ok (.lreturn, 1) := by decide +kernel
theorem pn_ex2 : plainName "com/example/samewire/samewire/FloatFormatNarrowPinLaw" = true := by first | (simp [plainName, overriddenIn]; done) | decide +kernel
theorem ef_ex2 (m : MethodId) (p1 : Int32) (sS : Int64) (ee : Int32) (ff : Int64) (bits : Int64) : entryFrame m #[(.int p1), (.long sS), (.int ee), (.long ff), (.long bits)] 19 = (mkF m 0 #[.val (.int p1), .val (.long sS), .second, .val (.int ee), .val (.long ff), .second, .val (.long bits), .second, .unset, .unset, .unset, .unset, .unset, .unset, .unset, .unset, .unset, .unset, .unset] []) := by first | (simp [entryFrame, mkF, argsToLocals, Value.category]; done) | rfl
def Q_ex2 (Z : State) (p1 : Int32) (sS : Int64) (ee : Int32) (ff bits : Int64) (h0 : Heap) (n0 : Nat) (v : Option Value) (h : Heap) (L : List Loc) : Prop := v = some (.long bits) ∧ Fr n0 L ∧ h = h0
set_option maxRecDepth 65536 in
set_option maxHeartbeats 40000000 in
theorem rm_ex2 (l : Launch) (Z : State) (a0 : Array Value) (hw : ∀ d ∈ tables_1, d.before a0 Z = true) (ws : List Jvm.Cond) (p1 : Int32) (sS : Int64) (ee : Int32) (ff bits : Int64) (h0 : Heap) (n0 : Nat) (Z0 : n0 ≤ h0.size) (h2 : p1 = 2) :
    MetFree l (⟨"com/example/samewire/samewire/FloatFormatNarrowPinLaw", "expected", "(IJIJJ)J"⟩ : MethodName) (head1 (Jvm.Cond.code (⟨"com/example/samewire/samewire/FloatFormatNarrowPinLaw", "expected", "(IJIJJ)J"⟩ : MethodName) method_3_code 19 (some .long) :: ws) ({ frames := 0, cells := 0, slots := 0, locals := 0 } : Room)) (fun a U => a = #[(.int p1), (.long sS), (.int ee), (.long ff), (.long bits)] ∧ Z.Warmed39 U.vm ∧ U.heap = h0) (fun _ _ _ _ _ => True) (fun _ U o U' => ∃ v L, o = .returned v ∧ Q_ex2 Z p1 sS ee ff bits h0 n0 v U'.heap L ∧ FrameEnd U o U' L ({ frames := 0, cells := 0, slots := 0, locals := 0 } : Room).cells ({ frames := 0, cells := 0, slots := 0, locals := 0 } : Room).slots) := by
  refine MetFree.of_bodySF (plainFor_of_name pn_ex2) hisR ?_
  intro p e s m args below meth c s₁ Bd hml0 hP hK
  obtain ⟨rfl, hZ, hh⟩ := hP
  have hx := Bd.exec
  have hby := Bd.bytes
  have hml : c.maxLocals = 19 := hml0
  have hown : s.vm.findClass "com/example/samewire/samewire/FloatFormatNarrowPinLaw" = some m.cls := findClass_of_methodNamed Bd.named
  have hnm := (name_of_methodNamed Bd.named Bd.method).1
  have X0 : Stand p l e ({ frames := 0, cells := 0, slots := 0, locals := 0 } : Room) s m #[(.int p1), (.long sS), (.int ee), (.long ff), (.long bits)] below meth c s₁ [] 0 0 := Stand.of_body Bd
  have e0 : s₁.heap = h0 := by rw [← hh, Bd.state]; rfl
  have N0 := Fr.nil n0
  have pre0 : ∀ t, Steps p.tables e below (s₁.setTop (mkF m 0 #[.val (.int p1), .val (.long sS), .second, .val (.int ee), .val (.long ff), .second, .val (.long bits), .second, .unset, .unset, .unset, .unset, .unset, .unset, .unset, .unset, .unset, .unset, .unset] [])) t → Steps p.tables e below (s₁.setTop (entryFrame m #[(.int p1), (.long sS), (.int ee), (.long ff), (.long bits)] 19)) t := fun t k => castTop (ef_ex2 m p1 sS ee ff bits) k
  have pre2 : ∀ t, Steps p.tables e below (s₁.setTop (mkF m 7 #[.val (.int p1), .val (.long sS), .second, .val (.int ee), .val (.long ff), .second, .val (.long bits), .second, .unset, .unset, .unset, .unset, .unset, .unset, .unset, .unset, .unset, .unset, .unset] [(.long bits)])) t → Steps p.tables e below (s₁.setTop (entryFrame m #[(.int p1), (.long sS), (.int ee), (.long ff), (.long bits)] 19)) t := fun t k => pre0 t (by
    show Steps p.tables e below (s₁.setTop (mkF m 0 #[.val (.int p1), .val (.long sS), .second, .val (.int ee), .val (.long ff), .second, .val (.long bits), .second, .unset, .unset, .unset, .unset, .unset, .unset, .unset, .unset, .unset, .unset, .unset] [])) _
    refine XS.iloadN X0.here hx rfl (hb hby dex2_0) rfl ?_
    show Steps p.tables e below (s₁.setTop (mkF m 1 #[.val (.int p1), .val (.long sS), .second, .val (.int ee), .val (.long ff), .second, .val (.long bits), .second, .unset, .unset, .unset, .unset, .unset, .unset, .unset, .unset, .unset, .unset, .unset] [(.int p1)])) _
    refine XS.iconst X0.here hx rfl (hb hby dex2_1) ?_
    show Steps p.tables e below (s₁.setTop (mkF m 2 #[.val (.int p1), .val (.long sS), .second, .val (.int ee), .val (.long ff), .second, .val (.long bits), .second, .unset, .unset, .unset, .unset, .unset, .unset, .unset, .unset, .unset, .unset, .unset] [(.int (2 : Int32)), (.int p1)])) _
    refine XS.icmpNo X0.here hx rfl (hb hby dex2_2) rfl (XT.ii_ne_f h2) ?_
    show Steps p.tables e below (s₁.setTop (mkF m 5 #[.val (.int p1), .val (.long sS), .second, .val (.int ee), .val (.long ff), .second, .val (.long bits), .second, .unset, .unset, .unset, .unset, .unset, .unset, .unset, .unset, .unset, .unset, .unset] [])) _
    refine XT.lload X0.here hx rfl (hb hby dex2_5) rfl ?_
    show Steps p.tables e below (s₁.setTop (mkF m 7 #[.val (.int p1), .val (.long sS), .second, .val (.int ee), .val (.long ff), .second, .val (.long bits), .second, .unset, .unset, .unset, .unset, .unset, .unset, .unset, .unset, .unset, .unset, .unset] [(.long bits)])) _
    exact k)
  obtain ⟨fs, hr, hrun, hended, hW, hsame⟩ := X0.leave (v := some (.long bits)) (fun h => by rw [Bd.returns] at h; cases h)
  refine ⟨_, _, pre2 _ ?_, hrun, hended, _, _, rfl, ?_, ⟨_, rfl⟩, hW, hsame.mono (by decide) (by decide)⟩
  · exact X0.lreturnOut hx Bd.returns (hb hby dex2_7) hr
  · show Q_ex2 Z p1 sS ee ff bits h0 n0 _ s₁.heap _
    rw [e0]
    exact ⟨rfl, N0, rfl⟩
theorem dex0_0 : decode method_3_code 0 = .ok (.iload_n 0, 1) := by decide +kernel
theorem dex0_1 : decode method_3_code 1 = .ok (.iconst 2, 1) := by decide +kernel
theorem dex0_2 : decode method_3_code 2 = .ok (.if_icmp .ne 6, 3) := by decide +kernel
theorem dex0_8 : decode method_3_code 8 = .ok (.iload_n 0, 1) := by decide +kernel
theorem dex0_9 : decode method_3_code 9 = .ok (.ifCond .ne 8, 3) := by decide +kernel
theorem dex0_12 : decode method_3_code 12 = .ok (.bipush 15, 2) := by decide +kernel
theorem dex0_14 : decode method_3_code 14 = .ok (.goto 5, 3) := by decide +kernel
theorem dex0_19 : decode method_3_code 19 = .ok (.istore 8, 2) := by decide +kernel
theorem dex0_21 : decode method_3_code 21 = .ok (.iload_n 0, 1) := by decide +kernel
theorem dex0_22 : decode method_3_code 22 = .ok (.ifCond .ne 8, 3) := by decide +kernel
theorem dex0_25 : decode method_3_code 25 = .ok (.bipush 42, 2) := by decide +kernel
theorem dex0_27 : decode method_3_code 27 = .ok (.goto 5, 3) := by decide +kernel
theorem dex0_32 : decode method_3_code 32 = .ok (.istore 9, 2) := by decide +kernel
theorem dex0_34 : decode method_3_code 34 = .ok (.iload_n 0, 1) := by decide +kernel
theorem dex0_35 : decode method_3_code 35 = .ok (.ifCond .ne 9, 3) := by decide +kernel
theorem dex0_38 : decode method_3_code 38 = .ok (.sipush 1008, 3) := by decide +kernel
theorem dex0_41 : decode method_3_code 41 = .ok (.goto 6, 3) := by decide +kernel
theorem dex0_47 : decode method_3_code 47 = .ok (.istore 10, 2) := by decide +kernel
theorem dex0_49 : decode method_3_code 49 = .ok (.iload_n 0, 1) := by decide +kernel
theorem dex0_50 : decode method_3_code 50 = .ok (.ifCond .ne 8, 3) := by decide +kernel
theorem dex0_53 : decode method_3_code 53 = .ok (.bipush 31, 2) := by decide +kernel
theorem dex0_55 : decode method_3_code 55 = .ok (.goto 6, 3) := by decide +kernel
theorem dex0_61 : decode method_3_code 61 = .ok (.istore 11, 2) := by decide +kernel
theorem dex0_63 : decode method_3_code 63 = .ok (.iload_n 0, 1) := by decide +kernel
theorem dex0_64 : decode method_3_code 64 = .ok (.ifCond .ne 9, 3) := by decide +kernel
theorem dex0_67 : decode method_3_code 67 = .ok (.sipush 1039, 3) := by decide +kernel
theorem dex0_70 : decode method_3_code 70 = .ok (.goto 6, 3) := by decide +kernel
theorem dex0_76 : decode method_3_code 76 = .ok (.istore 12, 2) := by decide +kernel
theorem dex0_78 : decode method_3_code 78 = .ok (.iload_n 0, 1) := by decide +kernel
theorem dex0_79 : decode method_3_code 79 = .ok (.ifCond .ne 9, 3) := by decide +kernel
theorem dex0_82 : decode method_3_code 82 = .ok (.sipush 1051, 3) := by decide +kernel
theorem dex0_85 : decode method_3_code 85 = .ok (.goto 6, 3) := by decide +kernel
theorem dex0_91 : decode method_3_code 91 = .ok (.istore 13, 2) := by decide +kernel
theorem dex0_93 : decode method_3_code 93 = .ok (.lload_n 1, 1) := by decide +kernel
theorem dex0_94 : decode method_3_code 94 = .ok (.iload 8, 2) := by decide +kernel
theorem dex0_96 : decode method_3_code 96 = .ok (.lshl, 1) := by decide +kernel
theorem dex0_97 : decode method_3_code 97 = .ok (.lstore 14, 2) := by decide +kernel
theorem dex0_99 : decode method_3_code 99 = .ok (.lload 6, 2) := by decide +kernel
theorem dex0_101 : decode method_3_code 101 = .ok (.ldc2_w 32, 3) := by decide +kernel
theorem dex0_104 : decode method_3_code 104 = .ok (.land, 1) := by decide +kernel
theorem dex0_105 : decode method_3_code 105 = .ok (.lstore 16, 2) := by decide +kernel
theorem dex0_107 : decode method_3_code 107 = .ok (.iload_n 3, 1) := by decide +kernel
theorem dex0_108 : decode method_3_code 108 = .ok (.sipush 2047, 3) := by decide +kernel
theorem dex0_111 : decode method_3_code 111 = .ok (.if_icmp .ne 19, 3) := by decide +kernel
theorem dex0_114 : decode method_3_code 114 = .ok (.lload 14, 2) := by decide +kernel
theorem dex0_116 : decode method_3_code 116 = .ok (.iload 11, 2) := by decide +kernel
theorem dex0_118 : decode method_3_code 118 = .ok (.i2l, 1) := by decide +kernel
theorem dex0_119 : decode method_3_code 119 = .ok (.bipush 52, 2) := by decide +kernel
theorem dex0_121 : decode method_3_code 121 = .ok (.lshl, 1) := by decide +kernel
theorem dex0_122 : decode method_3_code 122 = .ok (.lload 4, 2) := by decide +kernel
theorem dex0_124 : decode method_3_code 124 = .ok (.lor, 1) := by decide +kernel
theorem dex0_125 : decode method_3_code 125 = .ok (.iload 9, 2) := by decide +kernel
theorem dex0_127 : decode method_3_code 127 = .ok (.lushr, 1) := by decide +kernel
theorem dex0_128 : decode method_3_code 128 = .ok (.lor, 1) := by decide +kernel
theorem dex0_129 : decode method_3_code 129 = .ok (.lreturn, 1) := by decide +kernel
theorem dex0_130 : decode method_3_code 130 = .ok (.iload_n 3, 1) := by decide +kernel
theorem dex0_131 : decode method_3_code 131 = .ok (.ifCond .ne 6, 3) := by decide +kernel
theorem dex0_134 : decode method_3_code 134 = .ok (.lload 14, 2) := by decide +kernel
theorem dex0_136 : decode method_3_code 136 = .ok (.lreturn, 1) := by decide +kernel
theorem dex0_137 : decode method_3_code 137 = .ok (.iload_n 3, 1) := by decide +kernel
theorem dex0_138 : decode method_3_code 138 = .ok (.iload 12, 2) := by decide +kernel
theorem dex0_140 : decode method_3_code 140 = .ok (.if_icmp .lt 16, 3) := by decide +kernel
theorem dex0_143 : decode method_3_code 143 = .ok (.lload 14, 2) := by decide +kernel
theorem dex0_145 : decode method_3_code 145 = .ok (.iload 11, 2) := by decide +kernel
theorem dex0_147 : decode method_3_code 147 = .ok (.i2l, 1) := by decide +kernel
theorem dex0_148 : decode method_3_code 148 = .ok (.bipush 52, 2) := by decide +kernel
theorem dex0_150 : decode method_3_code 150 = .ok (.lshl, 1) := by decide +kernel
theorem dex0_151 : decode method_3_code 151 = .ok (.iload 9, 2) := by decide +kernel
theorem dex0_153 : decode method_3_code 153 = .ok (.lushr, 1) := by decide +kernel
theorem dex0_154 : decode method_3_code 154 = .ok (.lor, 1) := by decide +kernel
theorem dex0_155 : decode method_3_code 155 = .ok (.lreturn, 1) := by decide +kernel
theorem dex0_156 : decode method_3_code 156 = .ok (.iload_n 3, 1) := by decide +kernel
theorem dex0_157 : decode method_3_code 157 = .ok (.iload 10, 2) := by decide +kernel
theorem dex0_159 : decode method_3_code 159 = .ok (.if_icmp .le 19, 3) := by decide +kernel
theorem dex0_162 : decode method_3_code 162 = .ok (.lload 14, 2) := by decide +kernel
theorem dex0_164 : decode method_3_code 164 = .ok (.lload 16, 2) := by decide +kernel
theorem dex0_166 : decode method_3_code 166 = .ok (.iload 10, 2) := by decide +kernel
theorem dex0_168 : decode method_3_code 168 = .ok (.i2l, 1) := by decide +kernel
theorem dex0_169 : decode method_3_code 169 = .ok (.bipush 52, 2) := by decide +kernel
theorem dex0_171 : decode method_3_code 171 = .ok (.lshl, 1) := by decide +kernel
theorem dex0_172 : decode method_3_code 172 = .ok (.lsub, 1) := by decide +kernel
theorem dex0_173 : decode method_3_code 173 = .ok (.iload 9, 2) := by decide +kernel
theorem dex0_175 : decode method_3_code 175 = .ok (.lushr, 1) := by decide +kernel
theorem dex0_176 : decode method_3_code 176 = .ok (.lor, 1) := by decide +kernel
theorem dex0_177 : decode method_3_code 177 = .ok (.lreturn, 1) := by decide +kernel
theorem dex0_178 : decode method_3_code 178 = .ok (.iload 13, 2) := by decide +kernel
theorem dex0_180 : decode method_3_code 180 = .ok (.iload_n 3, 1) := by decide +kernel
theorem dex0_181 : decode method_3_code 181 = .ok (.isub, 1) := by decide +kernel
theorem dex0_182 : decode method_3_code 182 = .ok (.istore 18, 2) := by decide +kernel
theorem dex0_184 : decode method_3_code 184 = .ok (.iload 18, 2) := by decide +kernel
theorem dex0_186 : decode method_3_code 186 = .ok (.bipush 64, 2) := by decide +kernel
theorem dex0_188 : decode method_3_code 188 = .ok (.if_icmp .lt 6, 3) := by decide +kernel
theorem dex0_191 : decode method_3_code 191 = .ok (.lload 14, 2) := by decide +kernel
theorem dex0_193 : decode method_3_code 193 = .ok (.lreturn, 1) := by decide +kernel
theorem dex0_194 : decode method_3_code 194 = .ok (.lload 14, 2) := by decide +kernel
theorem dex0_196 : decode method_3_code 196 = .ok (.ldc2_w 34, 3) := by decide +kernel
theorem dex0_199 : decode method_3_code 199 = .ok (.lload 4, 2) := by decide +kernel
theorem dex0_201 : decode method_3_code 201 = .ok (.lor, 1) := by decide +kernel
theorem dex0_202 : decode method_3_code 202 = .ok (.iload 18, 2) := by decide +kernel
theorem dex0_204 : decode method_3_code 204 = .ok (.lushr, 1) := by decide +kernel
theorem dex0_205 : decode method_3_code 205 = .ok (.lor, 1) := by decide +kernel
theorem dex0_206 : decode method_3_code 206 = .ok (.lreturn, 1) := by decide +kernel
theorem pn_ex0 : plainName "com/example/samewire/samewire/FloatFormatNarrowPinLaw" = true := by first | (simp [plainName, overriddenIn]; done) | decide +kernel
theorem ef_ex0 (m : MethodId) (p1 : Int32) (sS : Int64) (ee : Int32) (ff : Int64) (bits : Int64) : entryFrame m #[(.int p1), (.long sS), (.int ee), (.long ff), (.long bits)] 19 = (mkF m 0 #[.val (.int p1), .val (.long sS), .second, .val (.int ee), .val (.long ff), .second, .val (.long bits), .second, .unset, .unset, .unset, .unset, .unset, .unset, .unset, .unset, .unset, .unset, .unset] []) := by first | (simp [entryFrame, mkF, argsToLocals, Value.category]; done) | rfl
def Q_ex0 (Z : State) (p1 : Int32) (sS : Int64) (ee : Int32) (ff bits : Int64) (h0 : Heap) (n0 : Nat) (v : Option Value) (h : Heap) (L : List Loc) : Prop := v = some (.long (own_exp 42 1008 31 1039 1051 (sS <<< ((15 : Int32).toInt64 &&& 63)) ee ff (bits &&& (9223372036854775807 : Int64)))) ∧ Fr n0 L ∧ h = h0
set_option maxRecDepth 65536 in
set_option maxHeartbeats 40000000 in
theorem rm_ex0 (l : Launch) (Z : State) (a0 : Array Value) (hw : ∀ d ∈ tables_1, d.before a0 Z = true) (ws : List Jvm.Cond) (p1 : Int32) (sS : Int64) (ee : Int32) (ff bits : Int64) (h0 : Heap) (n0 : Nat) (Z0 : n0 ≤ h0.size) (hw2 : ¬ p1 = 2) (hw0 : p1 = 0) :
    MetFree l (⟨"com/example/samewire/samewire/FloatFormatNarrowPinLaw", "expected", "(IJIJJ)J"⟩ : MethodName) (head1 (Jvm.Cond.code (⟨"com/example/samewire/samewire/FloatFormatNarrowPinLaw", "expected", "(IJIJJ)J"⟩ : MethodName) method_3_code 19 (some .long) :: ws) ({ frames := 0, cells := 0, slots := 0, locals := 0 } : Room)) (fun a U => a = #[(.int p1), (.long sS), (.int ee), (.long ff), (.long bits)] ∧ Z.Warmed39 U.vm ∧ U.heap = h0) (fun _ _ _ _ _ => True) (fun _ U o U' => ∃ v L, o = .returned v ∧ Q_ex0 Z p1 sS ee ff bits h0 n0 v U'.heap L ∧ FrameEnd U o U' L ({ frames := 0, cells := 0, slots := 0, locals := 0 } : Room).cells ({ frames := 0, cells := 0, slots := 0, locals := 0 } : Room).slots) := by
  refine MetFree.of_bodySF (plainFor_of_name pn_ex0) hisR ?_
  intro p e s m args below meth c s₁ Bd hml0 hP hK
  obtain ⟨rfl, hZ, hh⟩ := hP
  have hx := Bd.exec
  have hby := Bd.bytes
  have hml : c.maxLocals = 19 := hml0
  have hown : s.vm.findClass "com/example/samewire/samewire/FloatFormatNarrowPinLaw" = some m.cls := findClass_of_methodNamed Bd.named
  have hnm := (name_of_methodNamed Bd.named Bd.method).1
  have X0 : Stand p l e ({ frames := 0, cells := 0, slots := 0, locals := 0 } : Room) s m #[(.int p1), (.long sS), (.int ee), (.long ff), (.long bits)] below meth c s₁ [] 0 0 := Stand.of_body Bd
  have e0 : s₁.heap = h0 := by rw [← hh, Bd.state]; rfl
  have N0 := Fr.nil n0
  have pre0 : ∀ t, Steps p.tables e below (s₁.setTop (mkF m 0 #[.val (.int p1), .val (.long sS), .second, .val (.int ee), .val (.long ff), .second, .val (.long bits), .second, .unset, .unset, .unset, .unset, .unset, .unset, .unset, .unset, .unset, .unset, .unset] [])) t → Steps p.tables e below (s₁.setTop (entryFrame m #[(.int p1), (.long sS), (.int ee), (.long ff), (.long bits)] 19)) t := fun t k => castTop (ef_ex0 m p1 sS ee ff bits) k
  have pre2 : ∀ t, Steps p.tables e below (s₁.setTop (mkF m 111 #[.val (.int p1), .val (.long sS), .second, .val (.int ee), .val (.long ff), .second, .val (.long bits), .second, .val (.int (15 : Int32)), .val (.int (42 : Int32)), .val (.int (1008 : Int32)), .val (.int (31 : Int32)), .val (.int (1039 : Int32)), .val (.int (1051 : Int32)), .val (.long (sS <<< ((15 : Int32).toInt64 &&& 63))), .second, .val (.long (bits &&& (9223372036854775807 : Int64))), .second, .unset] [(.int (2047 : Int32)), (.int ee)])) t → Steps p.tables e below (s₁.setTop (entryFrame m #[(.int p1), (.long sS), (.int ee), (.long ff), (.long bits)] 19)) t := fun t k => pre0 t (by
    show Steps p.tables e below (s₁.setTop (mkF m 0 #[.val (.int p1), .val (.long sS), .second, .val (.int ee), .val (.long ff), .second, .val (.long bits), .second, .unset, .unset, .unset, .unset, .unset, .unset, .unset, .unset, .unset, .unset, .unset] [])) _
    refine XS.iloadN X0.here hx rfl (hb hby dex0_0) rfl ?_
    show Steps p.tables e below (s₁.setTop (mkF m 1 #[.val (.int p1), .val (.long sS), .second, .val (.int ee), .val (.long ff), .second, .val (.long bits), .second, .unset, .unset, .unset, .unset, .unset, .unset, .unset, .unset, .unset, .unset, .unset] [(.int p1)])) _
    refine XS.iconst X0.here hx rfl (hb hby dex0_1) ?_
    show Steps p.tables e below (s₁.setTop (mkF m 2 #[.val (.int p1), .val (.long sS), .second, .val (.int ee), .val (.long ff), .second, .val (.long bits), .second, .unset, .unset, .unset, .unset, .unset, .unset, .unset, .unset, .unset, .unset, .unset] [(.int (2 : Int32)), (.int p1)])) _
    refine XS.icmpYes X0.here hx rfl (pc0 := 2) (pc' := 8) rfl (hb hby dex0_2) rfl (XT.ii_ne_t hw2) (by decide) (by decide) ?_
    show Steps p.tables e below (s₁.setTop (mkF m 8 #[.val (.int p1), .val (.long sS), .second, .val (.int ee), .val (.long ff), .second, .val (.long bits), .second, .unset, .unset, .unset, .unset, .unset, .unset, .unset, .unset, .unset, .unset, .unset] [])) _
    refine XS.iloadN X0.here hx rfl (hb hby dex0_8) rfl ?_
    show Steps p.tables e below (s₁.setTop (mkF m 9 #[.val (.int p1), .val (.long sS), .second, .val (.int ee), .val (.long ff), .second, .val (.long bits), .second, .unset, .unset, .unset, .unset, .unset, .unset, .unset, .unset, .unset, .unset, .unset] [(.int p1)])) _
    refine XS.ifNo X0.here hx rfl (hb hby dex0_9) rfl (XT.i0_ne_f hw0) ?_
    show Steps p.tables e below (s₁.setTop (mkF m 12 #[.val (.int p1), .val (.long sS), .second, .val (.int ee), .val (.long ff), .second, .val (.long bits), .second, .unset, .unset, .unset, .unset, .unset, .unset, .unset, .unset, .unset, .unset, .unset] [])) _
    refine XS.bipush X0.here hx rfl (hb hby dex0_12) ?_
    show Steps p.tables e below (s₁.setTop (mkF m 14 #[.val (.int p1), .val (.long sS), .second, .val (.int ee), .val (.long ff), .second, .val (.long bits), .second, .unset, .unset, .unset, .unset, .unset, .unset, .unset, .unset, .unset, .unset, .unset] [(.int (15 : Int32))])) _
    refine XS.goto X0.here hx rfl (pc0 := 14) (pc' := 19) rfl (hb hby dex0_14) (by decide) (by decide) ?_
    show Steps p.tables e below (s₁.setTop (mkF m 19 #[.val (.int p1), .val (.long sS), .second, .val (.int ee), .val (.long ff), .second, .val (.long bits), .second, .unset, .unset, .unset, .unset, .unset, .unset, .unset, .unset, .unset, .unset, .unset] [(.int (15 : Int32))])) _
    refine XS.istore X0.here hx rfl (hb hby dex0_19) rfl (l' := #[.val (.int p1), .val (.long sS), .second, .val (.int ee), .val (.long ff), .second, .val (.long bits), .second, .val (.int (15 : Int32)), .unset, .unset, .unset, .unset, .unset, .unset, .unset, .unset, .unset, .unset]) rfl ?_
    show Steps p.tables e below (s₁.setTop (mkF m 21 #[.val (.int p1), .val (.long sS), .second, .val (.int ee), .val (.long ff), .second, .val (.long bits), .second, .val (.int (15 : Int32)), .unset, .unset, .unset, .unset, .unset, .unset, .unset, .unset, .unset, .unset] [])) _
    refine XS.iloadN X0.here hx rfl (hb hby dex0_21) rfl ?_
    show Steps p.tables e below (s₁.setTop (mkF m 22 #[.val (.int p1), .val (.long sS), .second, .val (.int ee), .val (.long ff), .second, .val (.long bits), .second, .val (.int (15 : Int32)), .unset, .unset, .unset, .unset, .unset, .unset, .unset, .unset, .unset, .unset] [(.int p1)])) _
    refine XS.ifNo X0.here hx rfl (hb hby dex0_22) rfl (XT.i0_ne_f hw0) ?_
    show Steps p.tables e below (s₁.setTop (mkF m 25 #[.val (.int p1), .val (.long sS), .second, .val (.int ee), .val (.long ff), .second, .val (.long bits), .second, .val (.int (15 : Int32)), .unset, .unset, .unset, .unset, .unset, .unset, .unset, .unset, .unset, .unset] [])) _
    refine XS.bipush X0.here hx rfl (hb hby dex0_25) ?_
    show Steps p.tables e below (s₁.setTop (mkF m 27 #[.val (.int p1), .val (.long sS), .second, .val (.int ee), .val (.long ff), .second, .val (.long bits), .second, .val (.int (15 : Int32)), .unset, .unset, .unset, .unset, .unset, .unset, .unset, .unset, .unset, .unset] [(.int (42 : Int32))])) _
    refine XS.goto X0.here hx rfl (pc0 := 27) (pc' := 32) rfl (hb hby dex0_27) (by decide) (by decide) ?_
    show Steps p.tables e below (s₁.setTop (mkF m 32 #[.val (.int p1), .val (.long sS), .second, .val (.int ee), .val (.long ff), .second, .val (.long bits), .second, .val (.int (15 : Int32)), .unset, .unset, .unset, .unset, .unset, .unset, .unset, .unset, .unset, .unset] [(.int (42 : Int32))])) _
    refine XS.istore X0.here hx rfl (hb hby dex0_32) rfl (l' := #[.val (.int p1), .val (.long sS), .second, .val (.int ee), .val (.long ff), .second, .val (.long bits), .second, .val (.int (15 : Int32)), .val (.int (42 : Int32)), .unset, .unset, .unset, .unset, .unset, .unset, .unset, .unset, .unset]) rfl ?_
    show Steps p.tables e below (s₁.setTop (mkF m 34 #[.val (.int p1), .val (.long sS), .second, .val (.int ee), .val (.long ff), .second, .val (.long bits), .second, .val (.int (15 : Int32)), .val (.int (42 : Int32)), .unset, .unset, .unset, .unset, .unset, .unset, .unset, .unset, .unset] [])) _
    refine XS.iloadN X0.here hx rfl (hb hby dex0_34) rfl ?_
    show Steps p.tables e below (s₁.setTop (mkF m 35 #[.val (.int p1), .val (.long sS), .second, .val (.int ee), .val (.long ff), .second, .val (.long bits), .second, .val (.int (15 : Int32)), .val (.int (42 : Int32)), .unset, .unset, .unset, .unset, .unset, .unset, .unset, .unset, .unset] [(.int p1)])) _
    refine XS.ifNo X0.here hx rfl (hb hby dex0_35) rfl (XT.i0_ne_f hw0) ?_
    show Steps p.tables e below (s₁.setTop (mkF m 38 #[.val (.int p1), .val (.long sS), .second, .val (.int ee), .val (.long ff), .second, .val (.long bits), .second, .val (.int (15 : Int32)), .val (.int (42 : Int32)), .unset, .unset, .unset, .unset, .unset, .unset, .unset, .unset, .unset] [])) _
    refine XS.sipush X0.here hx rfl (hb hby dex0_38) ?_
    show Steps p.tables e below (s₁.setTop (mkF m 41 #[.val (.int p1), .val (.long sS), .second, .val (.int ee), .val (.long ff), .second, .val (.long bits), .second, .val (.int (15 : Int32)), .val (.int (42 : Int32)), .unset, .unset, .unset, .unset, .unset, .unset, .unset, .unset, .unset] [(.int (1008 : Int32))])) _
    refine XS.goto X0.here hx rfl (pc0 := 41) (pc' := 47) rfl (hb hby dex0_41) (by decide) (by decide) ?_
    show Steps p.tables e below (s₁.setTop (mkF m 47 #[.val (.int p1), .val (.long sS), .second, .val (.int ee), .val (.long ff), .second, .val (.long bits), .second, .val (.int (15 : Int32)), .val (.int (42 : Int32)), .unset, .unset, .unset, .unset, .unset, .unset, .unset, .unset, .unset] [(.int (1008 : Int32))])) _
    refine XS.istore X0.here hx rfl (hb hby dex0_47) rfl (l' := #[.val (.int p1), .val (.long sS), .second, .val (.int ee), .val (.long ff), .second, .val (.long bits), .second, .val (.int (15 : Int32)), .val (.int (42 : Int32)), .val (.int (1008 : Int32)), .unset, .unset, .unset, .unset, .unset, .unset, .unset, .unset]) rfl ?_
    show Steps p.tables e below (s₁.setTop (mkF m 49 #[.val (.int p1), .val (.long sS), .second, .val (.int ee), .val (.long ff), .second, .val (.long bits), .second, .val (.int (15 : Int32)), .val (.int (42 : Int32)), .val (.int (1008 : Int32)), .unset, .unset, .unset, .unset, .unset, .unset, .unset, .unset] [])) _
    refine XS.iloadN X0.here hx rfl (hb hby dex0_49) rfl ?_
    show Steps p.tables e below (s₁.setTop (mkF m 50 #[.val (.int p1), .val (.long sS), .second, .val (.int ee), .val (.long ff), .second, .val (.long bits), .second, .val (.int (15 : Int32)), .val (.int (42 : Int32)), .val (.int (1008 : Int32)), .unset, .unset, .unset, .unset, .unset, .unset, .unset, .unset] [(.int p1)])) _
    refine XS.ifNo X0.here hx rfl (hb hby dex0_50) rfl (XT.i0_ne_f hw0) ?_
    show Steps p.tables e below (s₁.setTop (mkF m 53 #[.val (.int p1), .val (.long sS), .second, .val (.int ee), .val (.long ff), .second, .val (.long bits), .second, .val (.int (15 : Int32)), .val (.int (42 : Int32)), .val (.int (1008 : Int32)), .unset, .unset, .unset, .unset, .unset, .unset, .unset, .unset] [])) _
    refine XS.bipush X0.here hx rfl (hb hby dex0_53) ?_
    show Steps p.tables e below (s₁.setTop (mkF m 55 #[.val (.int p1), .val (.long sS), .second, .val (.int ee), .val (.long ff), .second, .val (.long bits), .second, .val (.int (15 : Int32)), .val (.int (42 : Int32)), .val (.int (1008 : Int32)), .unset, .unset, .unset, .unset, .unset, .unset, .unset, .unset] [(.int (31 : Int32))])) _
    refine XS.goto X0.here hx rfl (pc0 := 55) (pc' := 61) rfl (hb hby dex0_55) (by decide) (by decide) ?_
    show Steps p.tables e below (s₁.setTop (mkF m 61 #[.val (.int p1), .val (.long sS), .second, .val (.int ee), .val (.long ff), .second, .val (.long bits), .second, .val (.int (15 : Int32)), .val (.int (42 : Int32)), .val (.int (1008 : Int32)), .unset, .unset, .unset, .unset, .unset, .unset, .unset, .unset] [(.int (31 : Int32))])) _
    refine XS.istore X0.here hx rfl (hb hby dex0_61) rfl (l' := #[.val (.int p1), .val (.long sS), .second, .val (.int ee), .val (.long ff), .second, .val (.long bits), .second, .val (.int (15 : Int32)), .val (.int (42 : Int32)), .val (.int (1008 : Int32)), .val (.int (31 : Int32)), .unset, .unset, .unset, .unset, .unset, .unset, .unset]) rfl ?_
    show Steps p.tables e below (s₁.setTop (mkF m 63 #[.val (.int p1), .val (.long sS), .second, .val (.int ee), .val (.long ff), .second, .val (.long bits), .second, .val (.int (15 : Int32)), .val (.int (42 : Int32)), .val (.int (1008 : Int32)), .val (.int (31 : Int32)), .unset, .unset, .unset, .unset, .unset, .unset, .unset] [])) _
    refine XS.iloadN X0.here hx rfl (hb hby dex0_63) rfl ?_
    show Steps p.tables e below (s₁.setTop (mkF m 64 #[.val (.int p1), .val (.long sS), .second, .val (.int ee), .val (.long ff), .second, .val (.long bits), .second, .val (.int (15 : Int32)), .val (.int (42 : Int32)), .val (.int (1008 : Int32)), .val (.int (31 : Int32)), .unset, .unset, .unset, .unset, .unset, .unset, .unset] [(.int p1)])) _
    refine XS.ifNo X0.here hx rfl (hb hby dex0_64) rfl (XT.i0_ne_f hw0) ?_
    show Steps p.tables e below (s₁.setTop (mkF m 67 #[.val (.int p1), .val (.long sS), .second, .val (.int ee), .val (.long ff), .second, .val (.long bits), .second, .val (.int (15 : Int32)), .val (.int (42 : Int32)), .val (.int (1008 : Int32)), .val (.int (31 : Int32)), .unset, .unset, .unset, .unset, .unset, .unset, .unset] [])) _
    refine XS.sipush X0.here hx rfl (hb hby dex0_67) ?_
    show Steps p.tables e below (s₁.setTop (mkF m 70 #[.val (.int p1), .val (.long sS), .second, .val (.int ee), .val (.long ff), .second, .val (.long bits), .second, .val (.int (15 : Int32)), .val (.int (42 : Int32)), .val (.int (1008 : Int32)), .val (.int (31 : Int32)), .unset, .unset, .unset, .unset, .unset, .unset, .unset] [(.int (1039 : Int32))])) _
    refine XS.goto X0.here hx rfl (pc0 := 70) (pc' := 76) rfl (hb hby dex0_70) (by decide) (by decide) ?_
    show Steps p.tables e below (s₁.setTop (mkF m 76 #[.val (.int p1), .val (.long sS), .second, .val (.int ee), .val (.long ff), .second, .val (.long bits), .second, .val (.int (15 : Int32)), .val (.int (42 : Int32)), .val (.int (1008 : Int32)), .val (.int (31 : Int32)), .unset, .unset, .unset, .unset, .unset, .unset, .unset] [(.int (1039 : Int32))])) _
    refine XS.istore X0.here hx rfl (hb hby dex0_76) rfl (l' := #[.val (.int p1), .val (.long sS), .second, .val (.int ee), .val (.long ff), .second, .val (.long bits), .second, .val (.int (15 : Int32)), .val (.int (42 : Int32)), .val (.int (1008 : Int32)), .val (.int (31 : Int32)), .val (.int (1039 : Int32)), .unset, .unset, .unset, .unset, .unset, .unset]) rfl ?_
    show Steps p.tables e below (s₁.setTop (mkF m 78 #[.val (.int p1), .val (.long sS), .second, .val (.int ee), .val (.long ff), .second, .val (.long bits), .second, .val (.int (15 : Int32)), .val (.int (42 : Int32)), .val (.int (1008 : Int32)), .val (.int (31 : Int32)), .val (.int (1039 : Int32)), .unset, .unset, .unset, .unset, .unset, .unset] [])) _
    refine XS.iloadN X0.here hx rfl (hb hby dex0_78) rfl ?_
    show Steps p.tables e below (s₁.setTop (mkF m 79 #[.val (.int p1), .val (.long sS), .second, .val (.int ee), .val (.long ff), .second, .val (.long bits), .second, .val (.int (15 : Int32)), .val (.int (42 : Int32)), .val (.int (1008 : Int32)), .val (.int (31 : Int32)), .val (.int (1039 : Int32)), .unset, .unset, .unset, .unset, .unset, .unset] [(.int p1)])) _
    refine XS.ifNo X0.here hx rfl (hb hby dex0_79) rfl (XT.i0_ne_f hw0) ?_
    show Steps p.tables e below (s₁.setTop (mkF m 82 #[.val (.int p1), .val (.long sS), .second, .val (.int ee), .val (.long ff), .second, .val (.long bits), .second, .val (.int (15 : Int32)), .val (.int (42 : Int32)), .val (.int (1008 : Int32)), .val (.int (31 : Int32)), .val (.int (1039 : Int32)), .unset, .unset, .unset, .unset, .unset, .unset] [])) _
    refine XS.sipush X0.here hx rfl (hb hby dex0_82) ?_
    show Steps p.tables e below (s₁.setTop (mkF m 85 #[.val (.int p1), .val (.long sS), .second, .val (.int ee), .val (.long ff), .second, .val (.long bits), .second, .val (.int (15 : Int32)), .val (.int (42 : Int32)), .val (.int (1008 : Int32)), .val (.int (31 : Int32)), .val (.int (1039 : Int32)), .unset, .unset, .unset, .unset, .unset, .unset] [(.int (1051 : Int32))])) _
    refine XS.goto X0.here hx rfl (pc0 := 85) (pc' := 91) rfl (hb hby dex0_85) (by decide) (by decide) ?_
    show Steps p.tables e below (s₁.setTop (mkF m 91 #[.val (.int p1), .val (.long sS), .second, .val (.int ee), .val (.long ff), .second, .val (.long bits), .second, .val (.int (15 : Int32)), .val (.int (42 : Int32)), .val (.int (1008 : Int32)), .val (.int (31 : Int32)), .val (.int (1039 : Int32)), .unset, .unset, .unset, .unset, .unset, .unset] [(.int (1051 : Int32))])) _
    refine XS.istore X0.here hx rfl (hb hby dex0_91) rfl (l' := #[.val (.int p1), .val (.long sS), .second, .val (.int ee), .val (.long ff), .second, .val (.long bits), .second, .val (.int (15 : Int32)), .val (.int (42 : Int32)), .val (.int (1008 : Int32)), .val (.int (31 : Int32)), .val (.int (1039 : Int32)), .val (.int (1051 : Int32)), .unset, .unset, .unset, .unset, .unset]) rfl ?_
    show Steps p.tables e below (s₁.setTop (mkF m 93 #[.val (.int p1), .val (.long sS), .second, .val (.int ee), .val (.long ff), .second, .val (.long bits), .second, .val (.int (15 : Int32)), .val (.int (42 : Int32)), .val (.int (1008 : Int32)), .val (.int (31 : Int32)), .val (.int (1039 : Int32)), .val (.int (1051 : Int32)), .unset, .unset, .unset, .unset, .unset] [])) _
    refine XT.lloadN X0.here hx rfl (hb hby dex0_93) rfl ?_
    show Steps p.tables e below (s₁.setTop (mkF m 94 #[.val (.int p1), .val (.long sS), .second, .val (.int ee), .val (.long ff), .second, .val (.long bits), .second, .val (.int (15 : Int32)), .val (.int (42 : Int32)), .val (.int (1008 : Int32)), .val (.int (31 : Int32)), .val (.int (1039 : Int32)), .val (.int (1051 : Int32)), .unset, .unset, .unset, .unset, .unset] [(.long sS)])) _
    refine XS.iload X0.here hx rfl (hb hby dex0_94) rfl ?_
    show Steps p.tables e below (s₁.setTop (mkF m 96 #[.val (.int p1), .val (.long sS), .second, .val (.int ee), .val (.long ff), .second, .val (.long bits), .second, .val (.int (15 : Int32)), .val (.int (42 : Int32)), .val (.int (1008 : Int32)), .val (.int (31 : Int32)), .val (.int (1039 : Int32)), .val (.int (1051 : Int32)), .unset, .unset, .unset, .unset, .unset] [(.int (15 : Int32)), (.long sS)])) _
    refine XT.lshl X0.here hx rfl (hb hby dex0_96) rfl ?_
    show Steps p.tables e below (s₁.setTop (mkF m 97 #[.val (.int p1), .val (.long sS), .second, .val (.int ee), .val (.long ff), .second, .val (.long bits), .second, .val (.int (15 : Int32)), .val (.int (42 : Int32)), .val (.int (1008 : Int32)), .val (.int (31 : Int32)), .val (.int (1039 : Int32)), .val (.int (1051 : Int32)), .unset, .unset, .unset, .unset, .unset] [(.long (sS <<< ((15 : Int32).toInt64 &&& 63)))])) _
    refine XT.lstore X0.here hx rfl (hb hby dex0_97) rfl (l' := #[.val (.int p1), .val (.long sS), .second, .val (.int ee), .val (.long ff), .second, .val (.long bits), .second, .val (.int (15 : Int32)), .val (.int (42 : Int32)), .val (.int (1008 : Int32)), .val (.int (31 : Int32)), .val (.int (1039 : Int32)), .val (.int (1051 : Int32)), .val (.long (sS <<< ((15 : Int32).toInt64 &&& 63))), .second, .unset, .unset, .unset]) rfl ?_
    show Steps p.tables e below (s₁.setTop (mkF m 99 #[.val (.int p1), .val (.long sS), .second, .val (.int ee), .val (.long ff), .second, .val (.long bits), .second, .val (.int (15 : Int32)), .val (.int (42 : Int32)), .val (.int (1008 : Int32)), .val (.int (31 : Int32)), .val (.int (1039 : Int32)), .val (.int (1051 : Int32)), .val (.long (sS <<< ((15 : Int32).toInt64 &&& 63))), .second, .unset, .unset, .unset] [])) _
    refine XT.lload X0.here hx rfl (hb hby dex0_99) rfl ?_
    show Steps p.tables e below (s₁.setTop (mkF m 101 #[.val (.int p1), .val (.long sS), .second, .val (.int ee), .val (.long ff), .second, .val (.long bits), .second, .val (.int (15 : Int32)), .val (.int (42 : Int32)), .val (.int (1008 : Int32)), .val (.int (31 : Int32)), .val (.int (1039 : Int32)), .val (.int (1051 : Int32)), .val (.long (sS <<< ((15 : Int32).toInt64 &&& 63))), .second, .unset, .unset, .unset] [(.long bits)])) _
    refine X0.ldc2J hx hown (mvT hZ (hw _ (List.mem_of_getElem? (i := 24) rfl))) rfl (hb hby dex0_101) ?_
    show Steps p.tables e below (s₁.setTop (mkF m 104 #[.val (.int p1), .val (.long sS), .second, .val (.int ee), .val (.long ff), .second, .val (.long bits), .second, .val (.int (15 : Int32)), .val (.int (42 : Int32)), .val (.int (1008 : Int32)), .val (.int (31 : Int32)), .val (.int (1039 : Int32)), .val (.int (1051 : Int32)), .val (.long (sS <<< ((15 : Int32).toInt64 &&& 63))), .second, .unset, .unset, .unset] [(.long (9223372036854775807 : Int64)), (.long bits)])) _
    refine XT.land X0.here hx rfl (hb hby dex0_104) rfl ?_
    show Steps p.tables e below (s₁.setTop (mkF m 105 #[.val (.int p1), .val (.long sS), .second, .val (.int ee), .val (.long ff), .second, .val (.long bits), .second, .val (.int (15 : Int32)), .val (.int (42 : Int32)), .val (.int (1008 : Int32)), .val (.int (31 : Int32)), .val (.int (1039 : Int32)), .val (.int (1051 : Int32)), .val (.long (sS <<< ((15 : Int32).toInt64 &&& 63))), .second, .unset, .unset, .unset] [(.long (bits &&& (9223372036854775807 : Int64)))])) _
    refine XT.lstore X0.here hx rfl (hb hby dex0_105) rfl (l' := #[.val (.int p1), .val (.long sS), .second, .val (.int ee), .val (.long ff), .second, .val (.long bits), .second, .val (.int (15 : Int32)), .val (.int (42 : Int32)), .val (.int (1008 : Int32)), .val (.int (31 : Int32)), .val (.int (1039 : Int32)), .val (.int (1051 : Int32)), .val (.long (sS <<< ((15 : Int32).toInt64 &&& 63))), .second, .val (.long (bits &&& (9223372036854775807 : Int64))), .second, .unset]) rfl ?_
    show Steps p.tables e below (s₁.setTop (mkF m 107 #[.val (.int p1), .val (.long sS), .second, .val (.int ee), .val (.long ff), .second, .val (.long bits), .second, .val (.int (15 : Int32)), .val (.int (42 : Int32)), .val (.int (1008 : Int32)), .val (.int (31 : Int32)), .val (.int (1039 : Int32)), .val (.int (1051 : Int32)), .val (.long (sS <<< ((15 : Int32).toInt64 &&& 63))), .second, .val (.long (bits &&& (9223372036854775807 : Int64))), .second, .unset] [])) _
    refine XS.iloadN X0.here hx rfl (hb hby dex0_107) rfl ?_
    show Steps p.tables e below (s₁.setTop (mkF m 108 #[.val (.int p1), .val (.long sS), .second, .val (.int ee), .val (.long ff), .second, .val (.long bits), .second, .val (.int (15 : Int32)), .val (.int (42 : Int32)), .val (.int (1008 : Int32)), .val (.int (31 : Int32)), .val (.int (1039 : Int32)), .val (.int (1051 : Int32)), .val (.long (sS <<< ((15 : Int32).toInt64 &&& 63))), .second, .val (.long (bits &&& (9223372036854775807 : Int64))), .second, .unset] [(.int ee)])) _
    refine XS.sipush X0.here hx rfl (hb hby dex0_108) ?_
    show Steps p.tables e below (s₁.setTop (mkF m 111 #[.val (.int p1), .val (.long sS), .second, .val (.int ee), .val (.long ff), .second, .val (.long bits), .second, .val (.int (15 : Int32)), .val (.int (42 : Int32)), .val (.int (1008 : Int32)), .val (.int (31 : Int32)), .val (.int (1039 : Int32)), .val (.int (1051 : Int32)), .val (.long (sS <<< ((15 : Int32).toInt64 &&& 63))), .second, .val (.long (bits &&& (9223372036854775807 : Int64))), .second, .unset] [(.int (2047 : Int32)), (.int ee)])) _
    exact k)
  by_cases h1 : ee = 2047
  · skip
    have hf : own_exp 42 1008 31 1039 1051 (sS <<< ((15 : Int32).toInt64 &&& 63)) ee ff (bits &&& (9223372036854775807 : Int64)) = ((sS <<< ((15 : Int32).toInt64 &&& 63)) ||| (XT.ushrL ((((31 : Int32).toInt64) <<< ((52 : Int32).toInt64 &&& 63)) ||| ff) (42 : Int32))) := by unfold own_exp; rw [if_pos h1]
    have pre3 : ∀ t, Steps p.tables e below (s₁.setTop (mkF m 129 #[.val (.int p1), .val (.long sS), .second, .val (.int ee), .val (.long ff), .second, .val (.long bits), .second, .val (.int (15 : Int32)), .val (.int (42 : Int32)), .val (.int (1008 : Int32)), .val (.int (31 : Int32)), .val (.int (1039 : Int32)), .val (.int (1051 : Int32)), .val (.long (sS <<< ((15 : Int32).toInt64 &&& 63))), .second, .val (.long (bits &&& (9223372036854775807 : Int64))), .second, .unset] [(.long ((sS <<< ((15 : Int32).toInt64 &&& 63)) ||| (XT.ushrL ((((31 : Int32).toInt64) <<< ((52 : Int32).toInt64 &&& 63)) ||| ff) (42 : Int32))))])) t → Steps p.tables e below (s₁.setTop (entryFrame m #[(.int p1), (.long sS), (.int ee), (.long ff), (.long bits)] 19)) t := fun t k => pre2 t (by
      show Steps p.tables e below (s₁.setTop (mkF m 111 #[.val (.int p1), .val (.long sS), .second, .val (.int ee), .val (.long ff), .second, .val (.long bits), .second, .val (.int (15 : Int32)), .val (.int (42 : Int32)), .val (.int (1008 : Int32)), .val (.int (31 : Int32)), .val (.int (1039 : Int32)), .val (.int (1051 : Int32)), .val (.long (sS <<< ((15 : Int32).toInt64 &&& 63))), .second, .val (.long (bits &&& (9223372036854775807 : Int64))), .second, .unset] [(.int (2047 : Int32)), (.int ee)])) _
      refine XS.icmpNo X0.here hx rfl (hb hby dex0_111) rfl (XT.ii_ne_f h1) ?_
      show Steps p.tables e below (s₁.setTop (mkF m 114 #[.val (.int p1), .val (.long sS), .second, .val (.int ee), .val (.long ff), .second, .val (.long bits), .second, .val (.int (15 : Int32)), .val (.int (42 : Int32)), .val (.int (1008 : Int32)), .val (.int (31 : Int32)), .val (.int (1039 : Int32)), .val (.int (1051 : Int32)), .val (.long (sS <<< ((15 : Int32).toInt64 &&& 63))), .second, .val (.long (bits &&& (9223372036854775807 : Int64))), .second, .unset] [])) _
      refine XT.lload X0.here hx rfl (hb hby dex0_114) rfl ?_
      show Steps p.tables e below (s₁.setTop (mkF m 116 #[.val (.int p1), .val (.long sS), .second, .val (.int ee), .val (.long ff), .second, .val (.long bits), .second, .val (.int (15 : Int32)), .val (.int (42 : Int32)), .val (.int (1008 : Int32)), .val (.int (31 : Int32)), .val (.int (1039 : Int32)), .val (.int (1051 : Int32)), .val (.long (sS <<< ((15 : Int32).toInt64 &&& 63))), .second, .val (.long (bits &&& (9223372036854775807 : Int64))), .second, .unset] [(.long (sS <<< ((15 : Int32).toInt64 &&& 63)))])) _
      refine XS.iload X0.here hx rfl (hb hby dex0_116) rfl ?_
      show Steps p.tables e below (s₁.setTop (mkF m 118 #[.val (.int p1), .val (.long sS), .second, .val (.int ee), .val (.long ff), .second, .val (.long bits), .second, .val (.int (15 : Int32)), .val (.int (42 : Int32)), .val (.int (1008 : Int32)), .val (.int (31 : Int32)), .val (.int (1039 : Int32)), .val (.int (1051 : Int32)), .val (.long (sS <<< ((15 : Int32).toInt64 &&& 63))), .second, .val (.long (bits &&& (9223372036854775807 : Int64))), .second, .unset] [(.int (31 : Int32)), (.long (sS <<< ((15 : Int32).toInt64 &&& 63)))])) _
      refine XT.i2l X0.here hx rfl (hb hby dex0_118) rfl ?_
      show Steps p.tables e below (s₁.setTop (mkF m 119 #[.val (.int p1), .val (.long sS), .second, .val (.int ee), .val (.long ff), .second, .val (.long bits), .second, .val (.int (15 : Int32)), .val (.int (42 : Int32)), .val (.int (1008 : Int32)), .val (.int (31 : Int32)), .val (.int (1039 : Int32)), .val (.int (1051 : Int32)), .val (.long (sS <<< ((15 : Int32).toInt64 &&& 63))), .second, .val (.long (bits &&& (9223372036854775807 : Int64))), .second, .unset] [(.long ((31 : Int32).toInt64)), (.long (sS <<< ((15 : Int32).toInt64 &&& 63)))])) _
      refine XS.bipush X0.here hx rfl (hb hby dex0_119) ?_
      show Steps p.tables e below (s₁.setTop (mkF m 121 #[.val (.int p1), .val (.long sS), .second, .val (.int ee), .val (.long ff), .second, .val (.long bits), .second, .val (.int (15 : Int32)), .val (.int (42 : Int32)), .val (.int (1008 : Int32)), .val (.int (31 : Int32)), .val (.int (1039 : Int32)), .val (.int (1051 : Int32)), .val (.long (sS <<< ((15 : Int32).toInt64 &&& 63))), .second, .val (.long (bits &&& (9223372036854775807 : Int64))), .second, .unset] [(.int (52 : Int32)), (.long ((31 : Int32).toInt64)), (.long (sS <<< ((15 : Int32).toInt64 &&& 63)))])) _
      refine XT.lshl X0.here hx rfl (hb hby dex0_121) rfl ?_
      show Steps p.tables e below (s₁.setTop (mkF m 122 #[.val (.int p1), .val (.long sS), .second, .val (.int ee), .val (.long ff), .second, .val (.long bits), .second, .val (.int (15 : Int32)), .val (.int (42 : Int32)), .val (.int (1008 : Int32)), .val (.int (31 : Int32)), .val (.int (1039 : Int32)), .val (.int (1051 : Int32)), .val (.long (sS <<< ((15 : Int32).toInt64 &&& 63))), .second, .val (.long (bits &&& (9223372036854775807 : Int64))), .second, .unset] [(.long (((31 : Int32).toInt64) <<< ((52 : Int32).toInt64 &&& 63))), (.long (sS <<< ((15 : Int32).toInt64 &&& 63)))])) _
      refine XT.lload X0.here hx rfl (hb hby dex0_122) rfl ?_
      show Steps p.tables e below (s₁.setTop (mkF m 124 #[.val (.int p1), .val (.long sS), .second, .val (.int ee), .val (.long ff), .second, .val (.long bits), .second, .val (.int (15 : Int32)), .val (.int (42 : Int32)), .val (.int (1008 : Int32)), .val (.int (31 : Int32)), .val (.int (1039 : Int32)), .val (.int (1051 : Int32)), .val (.long (sS <<< ((15 : Int32).toInt64 &&& 63))), .second, .val (.long (bits &&& (9223372036854775807 : Int64))), .second, .unset] [(.long ff), (.long (((31 : Int32).toInt64) <<< ((52 : Int32).toInt64 &&& 63))), (.long (sS <<< ((15 : Int32).toInt64 &&& 63)))])) _
      refine XT.lor X0.here hx rfl (hb hby dex0_124) rfl ?_
      show Steps p.tables e below (s₁.setTop (mkF m 125 #[.val (.int p1), .val (.long sS), .second, .val (.int ee), .val (.long ff), .second, .val (.long bits), .second, .val (.int (15 : Int32)), .val (.int (42 : Int32)), .val (.int (1008 : Int32)), .val (.int (31 : Int32)), .val (.int (1039 : Int32)), .val (.int (1051 : Int32)), .val (.long (sS <<< ((15 : Int32).toInt64 &&& 63))), .second, .val (.long (bits &&& (9223372036854775807 : Int64))), .second, .unset] [(.long ((((31 : Int32).toInt64) <<< ((52 : Int32).toInt64 &&& 63)) ||| ff)), (.long (sS <<< ((15 : Int32).toInt64 &&& 63)))])) _
      refine XS.iload X0.here hx rfl (hb hby dex0_125) rfl ?_
      show Steps p.tables e below (s₁.setTop (mkF m 127 #[.val (.int p1), .val (.long sS), .second, .val (.int ee), .val (.long ff), .second, .val (.long bits), .second, .val (.int (15 : Int32)), .val (.int (42 : Int32)), .val (.int (1008 : Int32)), .val (.int (31 : Int32)), .val (.int (1039 : Int32)), .val (.int (1051 : Int32)), .val (.long (sS <<< ((15 : Int32).toInt64 &&& 63))), .second, .val (.long (bits &&& (9223372036854775807 : Int64))), .second, .unset] [(.int (42 : Int32)), (.long ((((31 : Int32).toInt64) <<< ((52 : Int32).toInt64 &&& 63)) ||| ff)), (.long (sS <<< ((15 : Int32).toInt64 &&& 63)))])) _
      refine XT.lushr X0.here hx rfl (hb hby dex0_127) rfl ?_
      show Steps p.tables e below (s₁.setTop (mkF m 128 #[.val (.int p1), .val (.long sS), .second, .val (.int ee), .val (.long ff), .second, .val (.long bits), .second, .val (.int (15 : Int32)), .val (.int (42 : Int32)), .val (.int (1008 : Int32)), .val (.int (31 : Int32)), .val (.int (1039 : Int32)), .val (.int (1051 : Int32)), .val (.long (sS <<< ((15 : Int32).toInt64 &&& 63))), .second, .val (.long (bits &&& (9223372036854775807 : Int64))), .second, .unset] [(.long (XT.ushrL ((((31 : Int32).toInt64) <<< ((52 : Int32).toInt64 &&& 63)) ||| ff) (42 : Int32))), (.long (sS <<< ((15 : Int32).toInt64 &&& 63)))])) _
      refine XT.lor X0.here hx rfl (hb hby dex0_128) rfl ?_
      show Steps p.tables e below (s₁.setTop (mkF m 129 #[.val (.int p1), .val (.long sS), .second, .val (.int ee), .val (.long ff), .second, .val (.long bits), .second, .val (.int (15 : Int32)), .val (.int (42 : Int32)), .val (.int (1008 : Int32)), .val (.int (31 : Int32)), .val (.int (1039 : Int32)), .val (.int (1051 : Int32)), .val (.long (sS <<< ((15 : Int32).toInt64 &&& 63))), .second, .val (.long (bits &&& (9223372036854775807 : Int64))), .second, .unset] [(.long ((sS <<< ((15 : Int32).toInt64 &&& 63)) ||| (XT.ushrL ((((31 : Int32).toInt64) <<< ((52 : Int32).toInt64 &&& 63)) ||| ff) (42 : Int32))))])) _
      exact k)
    obtain ⟨fs, hr, hrun, hended, hW, hsame⟩ := X0.leave (v := some (.long ((sS <<< ((15 : Int32).toInt64 &&& 63)) ||| (XT.ushrL ((((31 : Int32).toInt64) <<< ((52 : Int32).toInt64 &&& 63)) ||| ff) (42 : Int32))))) (fun h => by rw [Bd.returns] at h; cases h)
    refine ⟨_, _, pre3 _ ?_, hrun, hended, _, _, rfl, ?_, ⟨_, rfl⟩, hW, hsame.mono (by decide) (by decide)⟩
    · exact X0.lreturnOut hx Bd.returns (hb hby dex0_129) hr
    · show Q_ex0 Z p1 sS ee ff bits h0 n0 _ s₁.heap _
      unfold Q_ex0; rw [hf]
      rw [e0]
      exact ⟨rfl, N0, rfl⟩
  · skip
    have pre3 : ∀ t, Steps p.tables e below (s₁.setTop (mkF m 131 #[.val (.int p1), .val (.long sS), .second, .val (.int ee), .val (.long ff), .second, .val (.long bits), .second, .val (.int (15 : Int32)), .val (.int (42 : Int32)), .val (.int (1008 : Int32)), .val (.int (31 : Int32)), .val (.int (1039 : Int32)), .val (.int (1051 : Int32)), .val (.long (sS <<< ((15 : Int32).toInt64 &&& 63))), .second, .val (.long (bits &&& (9223372036854775807 : Int64))), .second, .unset] [(.int ee)])) t → Steps p.tables e below (s₁.setTop (entryFrame m #[(.int p1), (.long sS), (.int ee), (.long ff), (.long bits)] 19)) t := fun t k => pre2 t (by
      show Steps p.tables e below (s₁.setTop (mkF m 111 #[.val (.int p1), .val (.long sS), .second, .val (.int ee), .val (.long ff), .second, .val (.long bits), .second, .val (.int (15 : Int32)), .val (.int (42 : Int32)), .val (.int (1008 : Int32)), .val (.int (31 : Int32)), .val (.int (1039 : Int32)), .val (.int (1051 : Int32)), .val (.long (sS <<< ((15 : Int32).toInt64 &&& 63))), .second, .val (.long (bits &&& (9223372036854775807 : Int64))), .second, .unset] [(.int (2047 : Int32)), (.int ee)])) _
      refine XS.icmpYes X0.here hx rfl (pc0 := 111) (pc' := 130) rfl (hb hby dex0_111) rfl (XT.ii_ne_t h1) (by decide) (by decide) ?_
      show Steps p.tables e below (s₁.setTop (mkF m 130 #[.val (.int p1), .val (.long sS), .second, .val (.int ee), .val (.long ff), .second, .val (.long bits), .second, .val (.int (15 : Int32)), .val (.int (42 : Int32)), .val (.int (1008 : Int32)), .val (.int (31 : Int32)), .val (.int (1039 : Int32)), .val (.int (1051 : Int32)), .val (.long (sS <<< ((15 : Int32).toInt64 &&& 63))), .second, .val (.long (bits &&& (9223372036854775807 : Int64))), .second, .unset] [])) _
      refine XS.iloadN X0.here hx rfl (hb hby dex0_130) rfl ?_
      show Steps p.tables e below (s₁.setTop (mkF m 131 #[.val (.int p1), .val (.long sS), .second, .val (.int ee), .val (.long ff), .second, .val (.long bits), .second, .val (.int (15 : Int32)), .val (.int (42 : Int32)), .val (.int (1008 : Int32)), .val (.int (31 : Int32)), .val (.int (1039 : Int32)), .val (.int (1051 : Int32)), .val (.long (sS <<< ((15 : Int32).toInt64 &&& 63))), .second, .val (.long (bits &&& (9223372036854775807 : Int64))), .second, .unset] [(.int ee)])) _
      exact k)
    by_cases h2 : ee = 0
    · skip
      have hf : own_exp 42 1008 31 1039 1051 (sS <<< ((15 : Int32).toInt64 &&& 63)) ee ff (bits &&& (9223372036854775807 : Int64)) = (sS <<< ((15 : Int32).toInt64 &&& 63)) := by unfold own_exp; rw [if_neg h1, if_pos h2]
      have pre4 : ∀ t, Steps p.tables e below (s₁.setTop (mkF m 136 #[.val (.int p1), .val (.long sS), .second, .val (.int ee), .val (.long ff), .second, .val (.long bits), .second, .val (.int (15 : Int32)), .val (.int (42 : Int32)), .val (.int (1008 : Int32)), .val (.int (31 : Int32)), .val (.int (1039 : Int32)), .val (.int (1051 : Int32)), .val (.long (sS <<< ((15 : Int32).toInt64 &&& 63))), .second, .val (.long (bits &&& (9223372036854775807 : Int64))), .second, .unset] [(.long (sS <<< ((15 : Int32).toInt64 &&& 63)))])) t → Steps p.tables e below (s₁.setTop (entryFrame m #[(.int p1), (.long sS), (.int ee), (.long ff), (.long bits)] 19)) t := fun t k => pre3 t (by
        show Steps p.tables e below (s₁.setTop (mkF m 131 #[.val (.int p1), .val (.long sS), .second, .val (.int ee), .val (.long ff), .second, .val (.long bits), .second, .val (.int (15 : Int32)), .val (.int (42 : Int32)), .val (.int (1008 : Int32)), .val (.int (31 : Int32)), .val (.int (1039 : Int32)), .val (.int (1051 : Int32)), .val (.long (sS <<< ((15 : Int32).toInt64 &&& 63))), .second, .val (.long (bits &&& (9223372036854775807 : Int64))), .second, .unset] [(.int ee)])) _
        refine XS.ifNo X0.here hx rfl (hb hby dex0_131) rfl (XT.i0_ne_f h2) ?_
        show Steps p.tables e below (s₁.setTop (mkF m 134 #[.val (.int p1), .val (.long sS), .second, .val (.int ee), .val (.long ff), .second, .val (.long bits), .second, .val (.int (15 : Int32)), .val (.int (42 : Int32)), .val (.int (1008 : Int32)), .val (.int (31 : Int32)), .val (.int (1039 : Int32)), .val (.int (1051 : Int32)), .val (.long (sS <<< ((15 : Int32).toInt64 &&& 63))), .second, .val (.long (bits &&& (9223372036854775807 : Int64))), .second, .unset] [])) _
        refine XT.lload X0.here hx rfl (hb hby dex0_134) rfl ?_
        show Steps p.tables e below (s₁.setTop (mkF m 136 #[.val (.int p1), .val (.long sS), .second, .val (.int ee), .val (.long ff), .second, .val (.long bits), .second, .val (.int (15 : Int32)), .val (.int (42 : Int32)), .val (.int (1008 : Int32)), .val (.int (31 : Int32)), .val (.int (1039 : Int32)), .val (.int (1051 : Int32)), .val (.long (sS <<< ((15 : Int32).toInt64 &&& 63))), .second, .val (.long (bits &&& (9223372036854775807 : Int64))), .second, .unset] [(.long (sS <<< ((15 : Int32).toInt64 &&& 63)))])) _
        exact k)
      obtain ⟨fs, hr, hrun, hended, hW, hsame⟩ := X0.leave (v := some (.long (sS <<< ((15 : Int32).toInt64 &&& 63)))) (fun h => by rw [Bd.returns] at h; cases h)
      refine ⟨_, _, pre4 _ ?_, hrun, hended, _, _, rfl, ?_, ⟨_, rfl⟩, hW, hsame.mono (by decide) (by decide)⟩
      · exact X0.lreturnOut hx Bd.returns (hb hby dex0_136) hr
      · show Q_ex0 Z p1 sS ee ff bits h0 n0 _ s₁.heap _
        unfold Q_ex0; rw [hf]
        rw [e0]
        exact ⟨rfl, N0, rfl⟩
    · skip
      have pre4 : ∀ t, Steps p.tables e below (s₁.setTop (mkF m 140 #[.val (.int p1), .val (.long sS), .second, .val (.int ee), .val (.long ff), .second, .val (.long bits), .second, .val (.int (15 : Int32)), .val (.int (42 : Int32)), .val (.int (1008 : Int32)), .val (.int (31 : Int32)), .val (.int (1039 : Int32)), .val (.int (1051 : Int32)), .val (.long (sS <<< ((15 : Int32).toInt64 &&& 63))), .second, .val (.long (bits &&& (9223372036854775807 : Int64))), .second, .unset] [(.int (1039 : Int32)), (.int ee)])) t → Steps p.tables e below (s₁.setTop (entryFrame m #[(.int p1), (.long sS), (.int ee), (.long ff), (.long bits)] 19)) t := fun t k => pre3 t (by
        show Steps p.tables e below (s₁.setTop (mkF m 131 #[.val (.int p1), .val (.long sS), .second, .val (.int ee), .val (.long ff), .second, .val (.long bits), .second, .val (.int (15 : Int32)), .val (.int (42 : Int32)), .val (.int (1008 : Int32)), .val (.int (31 : Int32)), .val (.int (1039 : Int32)), .val (.int (1051 : Int32)), .val (.long (sS <<< ((15 : Int32).toInt64 &&& 63))), .second, .val (.long (bits &&& (9223372036854775807 : Int64))), .second, .unset] [(.int ee)])) _
        refine XS.ifYes X0.here hx rfl (pc0 := 131) (pc' := 137) rfl (hb hby dex0_131) rfl (XT.i0_ne_t h2) (by decide) (by decide) ?_
        show Steps p.tables e below (s₁.setTop (mkF m 137 #[.val (.int p1), .val (.long sS), .second, .val (.int ee), .val (.long ff), .second, .val (.long bits), .second, .val (.int (15 : Int32)), .val (.int (42 : Int32)), .val (.int (1008 : Int32)), .val (.int (31 : Int32)), .val (.int (1039 : Int32)), .val (.int (1051 : Int32)), .val (.long (sS <<< ((15 : Int32).toInt64 &&& 63))), .second, .val (.long (bits &&& (9223372036854775807 : Int64))), .second, .unset] [])) _
        refine XS.iloadN X0.here hx rfl (hb hby dex0_137) rfl ?_
        show Steps p.tables e below (s₁.setTop (mkF m 138 #[.val (.int p1), .val (.long sS), .second, .val (.int ee), .val (.long ff), .second, .val (.long bits), .second, .val (.int (15 : Int32)), .val (.int (42 : Int32)), .val (.int (1008 : Int32)), .val (.int (31 : Int32)), .val (.int (1039 : Int32)), .val (.int (1051 : Int32)), .val (.long (sS <<< ((15 : Int32).toInt64 &&& 63))), .second, .val (.long (bits &&& (9223372036854775807 : Int64))), .second, .unset] [(.int ee)])) _
        refine XS.iload X0.here hx rfl (hb hby dex0_138) rfl ?_
        show Steps p.tables e below (s₁.setTop (mkF m 140 #[.val (.int p1), .val (.long sS), .second, .val (.int ee), .val (.long ff), .second, .val (.long bits), .second, .val (.int (15 : Int32)), .val (.int (42 : Int32)), .val (.int (1008 : Int32)), .val (.int (31 : Int32)), .val (.int (1039 : Int32)), .val (.int (1051 : Int32)), .val (.long (sS <<< ((15 : Int32).toInt64 &&& 63))), .second, .val (.long (bits &&& (9223372036854775807 : Int64))), .second, .unset] [(.int (1039 : Int32)), (.int ee)])) _
        exact k)
      by_cases h3 : ee < 1039
      · skip
        have pre5 : ∀ t, Steps p.tables e below (s₁.setTop (mkF m 159 #[.val (.int p1), .val (.long sS), .second, .val (.int ee), .val (.long ff), .second, .val (.long bits), .second, .val (.int (15 : Int32)), .val (.int (42 : Int32)), .val (.int (1008 : Int32)), .val (.int (31 : Int32)), .val (.int (1039 : Int32)), .val (.int (1051 : Int32)), .val (.long (sS <<< ((15 : Int32).toInt64 &&& 63))), .second, .val (.long (bits &&& (9223372036854775807 : Int64))), .second, .unset] [(.int (1008 : Int32)), (.int ee)])) t → Steps p.tables e below (s₁.setTop (entryFrame m #[(.int p1), (.long sS), (.int ee), (.long ff), (.long bits)] 19)) t := fun t k => pre4 t (by
          show Steps p.tables e below (s₁.setTop (mkF m 140 #[.val (.int p1), .val (.long sS), .second, .val (.int ee), .val (.long ff), .second, .val (.long bits), .second, .val (.int (15 : Int32)), .val (.int (42 : Int32)), .val (.int (1008 : Int32)), .val (.int (31 : Int32)), .val (.int (1039 : Int32)), .val (.int (1051 : Int32)), .val (.long (sS <<< ((15 : Int32).toInt64 &&& 63))), .second, .val (.long (bits &&& (9223372036854775807 : Int64))), .second, .unset] [(.int (1039 : Int32)), (.int ee)])) _
          refine XS.icmpYes X0.here hx rfl (pc0 := 140) (pc' := 156) rfl (hb hby dex0_140) rfl (XT.ii_lt_t h3) (by decide) (by decide) ?_
          show Steps p.tables e below (s₁.setTop (mkF m 156 #[.val (.int p1), .val (.long sS), .second, .val (.int ee), .val (.long ff), .second, .val (.long bits), .second, .val (.int (15 : Int32)), .val (.int (42 : Int32)), .val (.int (1008 : Int32)), .val (.int (31 : Int32)), .val (.int (1039 : Int32)), .val (.int (1051 : Int32)), .val (.long (sS <<< ((15 : Int32).toInt64 &&& 63))), .second, .val (.long (bits &&& (9223372036854775807 : Int64))), .second, .unset] [])) _
          refine XS.iloadN X0.here hx rfl (hb hby dex0_156) rfl ?_
          show Steps p.tables e below (s₁.setTop (mkF m 157 #[.val (.int p1), .val (.long sS), .second, .val (.int ee), .val (.long ff), .second, .val (.long bits), .second, .val (.int (15 : Int32)), .val (.int (42 : Int32)), .val (.int (1008 : Int32)), .val (.int (31 : Int32)), .val (.int (1039 : Int32)), .val (.int (1051 : Int32)), .val (.long (sS <<< ((15 : Int32).toInt64 &&& 63))), .second, .val (.long (bits &&& (9223372036854775807 : Int64))), .second, .unset] [(.int ee)])) _
          refine XS.iload X0.here hx rfl (hb hby dex0_157) rfl ?_
          show Steps p.tables e below (s₁.setTop (mkF m 159 #[.val (.int p1), .val (.long sS), .second, .val (.int ee), .val (.long ff), .second, .val (.long bits), .second, .val (.int (15 : Int32)), .val (.int (42 : Int32)), .val (.int (1008 : Int32)), .val (.int (31 : Int32)), .val (.int (1039 : Int32)), .val (.int (1051 : Int32)), .val (.long (sS <<< ((15 : Int32).toInt64 &&& 63))), .second, .val (.long (bits &&& (9223372036854775807 : Int64))), .second, .unset] [(.int (1008 : Int32)), (.int ee)])) _
          exact k)
        by_cases h4 : (1008 : Int32) < ee
        · skip
          have hf : own_exp 42 1008 31 1039 1051 (sS <<< ((15 : Int32).toInt64 &&& 63)) ee ff (bits &&& (9223372036854775807 : Int64)) = ((sS <<< ((15 : Int32).toInt64 &&& 63)) ||| (XT.ushrL ((bits &&& (9223372036854775807 : Int64)) - (((1008 : Int32).toInt64) <<< ((52 : Int32).toInt64 &&& 63))) (42 : Int32))) := by unfold own_exp; rw [if_neg h1, if_neg h2, if_pos h3, if_pos h4]
          have pre6 : ∀ t, Steps p.tables e below (s₁.setTop (mkF m 177 #[.val (.int p1), .val (.long sS), .second, .val (.int ee), .val (.long ff), .second, .val (.long bits), .second, .val (.int (15 : Int32)), .val (.int (42 : Int32)), .val (.int (1008 : Int32)), .val (.int (31 : Int32)), .val (.int (1039 : Int32)), .val (.int (1051 : Int32)), .val (.long (sS <<< ((15 : Int32).toInt64 &&& 63))), .second, .val (.long (bits &&& (9223372036854775807 : Int64))), .second, .unset] [(.long ((sS <<< ((15 : Int32).toInt64 &&& 63)) ||| (XT.ushrL ((bits &&& (9223372036854775807 : Int64)) - (((1008 : Int32).toInt64) <<< ((52 : Int32).toInt64 &&& 63))) (42 : Int32))))])) t → Steps p.tables e below (s₁.setTop (entryFrame m #[(.int p1), (.long sS), (.int ee), (.long ff), (.long bits)] 19)) t := fun t k => pre5 t (by
            show Steps p.tables e below (s₁.setTop (mkF m 159 #[.val (.int p1), .val (.long sS), .second, .val (.int ee), .val (.long ff), .second, .val (.long bits), .second, .val (.int (15 : Int32)), .val (.int (42 : Int32)), .val (.int (1008 : Int32)), .val (.int (31 : Int32)), .val (.int (1039 : Int32)), .val (.int (1051 : Int32)), .val (.long (sS <<< ((15 : Int32).toInt64 &&& 63))), .second, .val (.long (bits &&& (9223372036854775807 : Int64))), .second, .unset] [(.int (1008 : Int32)), (.int ee)])) _
            refine XS.icmpNo X0.here hx rfl (hb hby dex0_159) rfl (XT.ii_le_f h4) ?_
            show Steps p.tables e below (s₁.setTop (mkF m 162 #[.val (.int p1), .val (.long sS), .second, .val (.int ee), .val (.long ff), .second, .val (.long bits), .second, .val (.int (15 : Int32)), .val (.int (42 : Int32)), .val (.int (1008 : Int32)), .val (.int (31 : Int32)), .val (.int (1039 : Int32)), .val (.int (1051 : Int32)), .val (.long (sS <<< ((15 : Int32).toInt64 &&& 63))), .second, .val (.long (bits &&& (9223372036854775807 : Int64))), .second, .unset] [])) _
            refine XT.lload X0.here hx rfl (hb hby dex0_162) rfl ?_
            show Steps p.tables e below (s₁.setTop (mkF m 164 #[.val (.int p1), .val (.long sS), .second, .val (.int ee), .val (.long ff), .second, .val (.long bits), .second, .val (.int (15 : Int32)), .val (.int (42 : Int32)), .val (.int (1008 : Int32)), .val (.int (31 : Int32)), .val (.int (1039 : Int32)), .val (.int (1051 : Int32)), .val (.long (sS <<< ((15 : Int32).toInt64 &&& 63))), .second, .val (.long (bits &&& (9223372036854775807 : Int64))), .second, .unset] [(.long (sS <<< ((15 : Int32).toInt64 &&& 63)))])) _
            refine XT.lload X0.here hx rfl (hb hby dex0_164) rfl ?_
            show Steps p.tables e below (s₁.setTop (mkF m 166 #[.val (.int p1), .val (.long sS), .second, .val (.int ee), .val (.long ff), .second, .val (.long bits), .second, .val (.int (15 : Int32)), .val (.int (42 : Int32)), .val (.int (1008 : Int32)), .val (.int (31 : Int32)), .val (.int (1039 : Int32)), .val (.int (1051 : Int32)), .val (.long (sS <<< ((15 : Int32).toInt64 &&& 63))), .second, .val (.long (bits &&& (9223372036854775807 : Int64))), .second, .unset] [(.long (bits &&& (9223372036854775807 : Int64))), (.long (sS <<< ((15 : Int32).toInt64 &&& 63)))])) _
            refine XS.iload X0.here hx rfl (hb hby dex0_166) rfl ?_
            show Steps p.tables e below (s₁.setTop (mkF m 168 #[.val (.int p1), .val (.long sS), .second, .val (.int ee), .val (.long ff), .second, .val (.long bits), .second, .val (.int (15 : Int32)), .val (.int (42 : Int32)), .val (.int (1008 : Int32)), .val (.int (31 : Int32)), .val (.int (1039 : Int32)), .val (.int (1051 : Int32)), .val (.long (sS <<< ((15 : Int32).toInt64 &&& 63))), .second, .val (.long (bits &&& (9223372036854775807 : Int64))), .second, .unset] [(.int (1008 : Int32)), (.long (bits &&& (9223372036854775807 : Int64))), (.long (sS <<< ((15 : Int32).toInt64 &&& 63)))])) _
            refine XT.i2l X0.here hx rfl (hb hby dex0_168) rfl ?_
            show Steps p.tables e below (s₁.setTop (mkF m 169 #[.val (.int p1), .val (.long sS), .second, .val (.int ee), .val (.long ff), .second, .val (.long bits), .second, .val (.int (15 : Int32)), .val (.int (42 : Int32)), .val (.int (1008 : Int32)), .val (.int (31 : Int32)), .val (.int (1039 : Int32)), .val (.int (1051 : Int32)), .val (.long (sS <<< ((15 : Int32).toInt64 &&& 63))), .second, .val (.long (bits &&& (9223372036854775807 : Int64))), .second, .unset] [(.long ((1008 : Int32).toInt64)), (.long (bits &&& (9223372036854775807 : Int64))), (.long (sS <<< ((15 : Int32).toInt64 &&& 63)))])) _
            refine XS.bipush X0.here hx rfl (hb hby dex0_169) ?_
            show Steps p.tables e below (s₁.setTop (mkF m 171 #[.val (.int p1), .val (.long sS), .second, .val (.int ee), .val (.long ff), .second, .val (.long bits), .second, .val (.int (15 : Int32)), .val (.int (42 : Int32)), .val (.int (1008 : Int32)), .val (.int (31 : Int32)), .val (.int (1039 : Int32)), .val (.int (1051 : Int32)), .val (.long (sS <<< ((15 : Int32).toInt64 &&& 63))), .second, .val (.long (bits &&& (9223372036854775807 : Int64))), .second, .unset] [(.int (52 : Int32)), (.long ((1008 : Int32).toInt64)), (.long (bits &&& (9223372036854775807 : Int64))), (.long (sS <<< ((15 : Int32).toInt64 &&& 63)))])) _
            refine XT.lshl X0.here hx rfl (hb hby dex0_171) rfl ?_
            show Steps p.tables e below (s₁.setTop (mkF m 172 #[.val (.int p1), .val (.long sS), .second, .val (.int ee), .val (.long ff), .second, .val (.long bits), .second, .val (.int (15 : Int32)), .val (.int (42 : Int32)), .val (.int (1008 : Int32)), .val (.int (31 : Int32)), .val (.int (1039 : Int32)), .val (.int (1051 : Int32)), .val (.long (sS <<< ((15 : Int32).toInt64 &&& 63))), .second, .val (.long (bits &&& (9223372036854775807 : Int64))), .second, .unset] [(.long (((1008 : Int32).toInt64) <<< ((52 : Int32).toInt64 &&& 63))), (.long (bits &&& (9223372036854775807 : Int64))), (.long (sS <<< ((15 : Int32).toInt64 &&& 63)))])) _
            refine XT.lsub X0.here hx rfl (hb hby dex0_172) rfl ?_
            show Steps p.tables e below (s₁.setTop (mkF m 173 #[.val (.int p1), .val (.long sS), .second, .val (.int ee), .val (.long ff), .second, .val (.long bits), .second, .val (.int (15 : Int32)), .val (.int (42 : Int32)), .val (.int (1008 : Int32)), .val (.int (31 : Int32)), .val (.int (1039 : Int32)), .val (.int (1051 : Int32)), .val (.long (sS <<< ((15 : Int32).toInt64 &&& 63))), .second, .val (.long (bits &&& (9223372036854775807 : Int64))), .second, .unset] [(.long ((bits &&& (9223372036854775807 : Int64)) - (((1008 : Int32).toInt64) <<< ((52 : Int32).toInt64 &&& 63)))), (.long (sS <<< ((15 : Int32).toInt64 &&& 63)))])) _
            refine XS.iload X0.here hx rfl (hb hby dex0_173) rfl ?_
            show Steps p.tables e below (s₁.setTop (mkF m 175 #[.val (.int p1), .val (.long sS), .second, .val (.int ee), .val (.long ff), .second, .val (.long bits), .second, .val (.int (15 : Int32)), .val (.int (42 : Int32)), .val (.int (1008 : Int32)), .val (.int (31 : Int32)), .val (.int (1039 : Int32)), .val (.int (1051 : Int32)), .val (.long (sS <<< ((15 : Int32).toInt64 &&& 63))), .second, .val (.long (bits &&& (9223372036854775807 : Int64))), .second, .unset] [(.int (42 : Int32)), (.long ((bits &&& (9223372036854775807 : Int64)) - (((1008 : Int32).toInt64) <<< ((52 : Int32).toInt64 &&& 63)))), (.long (sS <<< ((15 : Int32).toInt64 &&& 63)))])) _
            refine XT.lushr X0.here hx rfl (hb hby dex0_175) rfl ?_
            show Steps p.tables e below (s₁.setTop (mkF m 176 #[.val (.int p1), .val (.long sS), .second, .val (.int ee), .val (.long ff), .second, .val (.long bits), .second, .val (.int (15 : Int32)), .val (.int (42 : Int32)), .val (.int (1008 : Int32)), .val (.int (31 : Int32)), .val (.int (1039 : Int32)), .val (.int (1051 : Int32)), .val (.long (sS <<< ((15 : Int32).toInt64 &&& 63))), .second, .val (.long (bits &&& (9223372036854775807 : Int64))), .second, .unset] [(.long (XT.ushrL ((bits &&& (9223372036854775807 : Int64)) - (((1008 : Int32).toInt64) <<< ((52 : Int32).toInt64 &&& 63))) (42 : Int32))), (.long (sS <<< ((15 : Int32).toInt64 &&& 63)))])) _
            refine XT.lor X0.here hx rfl (hb hby dex0_176) rfl ?_
            show Steps p.tables e below (s₁.setTop (mkF m 177 #[.val (.int p1), .val (.long sS), .second, .val (.int ee), .val (.long ff), .second, .val (.long bits), .second, .val (.int (15 : Int32)), .val (.int (42 : Int32)), .val (.int (1008 : Int32)), .val (.int (31 : Int32)), .val (.int (1039 : Int32)), .val (.int (1051 : Int32)), .val (.long (sS <<< ((15 : Int32).toInt64 &&& 63))), .second, .val (.long (bits &&& (9223372036854775807 : Int64))), .second, .unset] [(.long ((sS <<< ((15 : Int32).toInt64 &&& 63)) ||| (XT.ushrL ((bits &&& (9223372036854775807 : Int64)) - (((1008 : Int32).toInt64) <<< ((52 : Int32).toInt64 &&& 63))) (42 : Int32))))])) _
            exact k)
          obtain ⟨fs, hr, hrun, hended, hW, hsame⟩ := X0.leave (v := some (.long ((sS <<< ((15 : Int32).toInt64 &&& 63)) ||| (XT.ushrL ((bits &&& (9223372036854775807 : Int64)) - (((1008 : Int32).toInt64) <<< ((52 : Int32).toInt64 &&& 63))) (42 : Int32))))) (fun h => by rw [Bd.returns] at h; cases h)
          refine ⟨_, _, pre6 _ ?_, hrun, hended, _, _, rfl, ?_, ⟨_, rfl⟩, hW, hsame.mono (by decide) (by decide)⟩
          · exact X0.lreturnOut hx Bd.returns (hb hby dex0_177) hr
          · show Q_ex0 Z p1 sS ee ff bits h0 n0 _ s₁.heap _
            unfold Q_ex0; rw [hf]
            rw [e0]
            exact ⟨rfl, N0, rfl⟩
        · skip
          have pre6 : ∀ t, Steps p.tables e below (s₁.setTop (mkF m 188 #[.val (.int p1), .val (.long sS), .second, .val (.int ee), .val (.long ff), .second, .val (.long bits), .second, .val (.int (15 : Int32)), .val (.int (42 : Int32)), .val (.int (1008 : Int32)), .val (.int (31 : Int32)), .val (.int (1039 : Int32)), .val (.int (1051 : Int32)), .val (.long (sS <<< ((15 : Int32).toInt64 &&& 63))), .second, .val (.long (bits &&& (9223372036854775807 : Int64))), .second, .val (.int ((1051 : Int32) - ee))] [(.int (64 : Int32)), (.int ((1051 : Int32) - ee))])) t → Steps p.tables e below (s₁.setTop (entryFrame m #[(.int p1), (.long sS), (.int ee), (.long ff), (.long bits)] 19)) t := fun t k => pre5 t (by
            show Steps p.tables e below (s₁.setTop (mkF m 159 #[.val (.int p1), .val (.long sS), .second, .val (.int ee), .val (.long ff), .second, .val (.long bits), .second, .val (.int (15 : Int32)), .val (.int (42 : Int32)), .val (.int (1008 : Int32)), .val (.int (31 : Int32)), .val (.int (1039 : Int32)), .val (.int (1051 : Int32)), .val (.long (sS <<< ((15 : Int32).toInt64 &&& 63))), .second, .val (.long (bits &&& (9223372036854775807 : Int64))), .second, .unset] [(.int (1008 : Int32)), (.int ee)])) _
            refine XS.icmpYes X0.here hx rfl (pc0 := 159) (pc' := 178) rfl (hb hby dex0_159) rfl (XT.ii_le_t h4) (by decide) (by decide) ?_
            show Steps p.tables e below (s₁.setTop (mkF m 178 #[.val (.int p1), .val (.long sS), .second, .val (.int ee), .val (.long ff), .second, .val (.long bits), .second, .val (.int (15 : Int32)), .val (.int (42 : Int32)), .val (.int (1008 : Int32)), .val (.int (31 : Int32)), .val (.int (1039 : Int32)), .val (.int (1051 : Int32)), .val (.long (sS <<< ((15 : Int32).toInt64 &&& 63))), .second, .val (.long (bits &&& (9223372036854775807 : Int64))), .second, .unset] [])) _
            refine XS.iload X0.here hx rfl (hb hby dex0_178) rfl ?_
            show Steps p.tables e below (s₁.setTop (mkF m 180 #[.val (.int p1), .val (.long sS), .second, .val (.int ee), .val (.long ff), .second, .val (.long bits), .second, .val (.int (15 : Int32)), .val (.int (42 : Int32)), .val (.int (1008 : Int32)), .val (.int (31 : Int32)), .val (.int (1039 : Int32)), .val (.int (1051 : Int32)), .val (.long (sS <<< ((15 : Int32).toInt64 &&& 63))), .second, .val (.long (bits &&& (9223372036854775807 : Int64))), .second, .unset] [(.int (1051 : Int32))])) _
            refine XS.iloadN X0.here hx rfl (hb hby dex0_180) rfl ?_
            show Steps p.tables e below (s₁.setTop (mkF m 181 #[.val (.int p1), .val (.long sS), .second, .val (.int ee), .val (.long ff), .second, .val (.long bits), .second, .val (.int (15 : Int32)), .val (.int (42 : Int32)), .val (.int (1008 : Int32)), .val (.int (31 : Int32)), .val (.int (1039 : Int32)), .val (.int (1051 : Int32)), .val (.long (sS <<< ((15 : Int32).toInt64 &&& 63))), .second, .val (.long (bits &&& (9223372036854775807 : Int64))), .second, .unset] [(.int ee), (.int (1051 : Int32))])) _
            refine XS.isub X0.here hx rfl (hb hby dex0_181) rfl ?_
            show Steps p.tables e below (s₁.setTop (mkF m 182 #[.val (.int p1), .val (.long sS), .second, .val (.int ee), .val (.long ff), .second, .val (.long bits), .second, .val (.int (15 : Int32)), .val (.int (42 : Int32)), .val (.int (1008 : Int32)), .val (.int (31 : Int32)), .val (.int (1039 : Int32)), .val (.int (1051 : Int32)), .val (.long (sS <<< ((15 : Int32).toInt64 &&& 63))), .second, .val (.long (bits &&& (9223372036854775807 : Int64))), .second, .unset] [(.int ((1051 : Int32) - ee))])) _
            refine XS.istore X0.here hx rfl (hb hby dex0_182) rfl (l' := #[.val (.int p1), .val (.long sS), .second, .val (.int ee), .val (.long ff), .second, .val (.long bits), .second, .val (.int (15 : Int32)), .val (.int (42 : Int32)), .val (.int (1008 : Int32)), .val (.int (31 : Int32)), .val (.int (1039 : Int32)), .val (.int (1051 : Int32)), .val (.long (sS <<< ((15 : Int32).toInt64 &&& 63))), .second, .val (.long (bits &&& (9223372036854775807 : Int64))), .second, .val (.int ((1051 : Int32) - ee))]) rfl ?_
            show Steps p.tables e below (s₁.setTop (mkF m 184 #[.val (.int p1), .val (.long sS), .second, .val (.int ee), .val (.long ff), .second, .val (.long bits), .second, .val (.int (15 : Int32)), .val (.int (42 : Int32)), .val (.int (1008 : Int32)), .val (.int (31 : Int32)), .val (.int (1039 : Int32)), .val (.int (1051 : Int32)), .val (.long (sS <<< ((15 : Int32).toInt64 &&& 63))), .second, .val (.long (bits &&& (9223372036854775807 : Int64))), .second, .val (.int ((1051 : Int32) - ee))] [])) _
            refine XS.iload X0.here hx rfl (hb hby dex0_184) rfl ?_
            show Steps p.tables e below (s₁.setTop (mkF m 186 #[.val (.int p1), .val (.long sS), .second, .val (.int ee), .val (.long ff), .second, .val (.long bits), .second, .val (.int (15 : Int32)), .val (.int (42 : Int32)), .val (.int (1008 : Int32)), .val (.int (31 : Int32)), .val (.int (1039 : Int32)), .val (.int (1051 : Int32)), .val (.long (sS <<< ((15 : Int32).toInt64 &&& 63))), .second, .val (.long (bits &&& (9223372036854775807 : Int64))), .second, .val (.int ((1051 : Int32) - ee))] [(.int ((1051 : Int32) - ee))])) _
            refine XS.bipush X0.here hx rfl (hb hby dex0_186) ?_
            show Steps p.tables e below (s₁.setTop (mkF m 188 #[.val (.int p1), .val (.long sS), .second, .val (.int ee), .val (.long ff), .second, .val (.long bits), .second, .val (.int (15 : Int32)), .val (.int (42 : Int32)), .val (.int (1008 : Int32)), .val (.int (31 : Int32)), .val (.int (1039 : Int32)), .val (.int (1051 : Int32)), .val (.long (sS <<< ((15 : Int32).toInt64 &&& 63))), .second, .val (.long (bits &&& (9223372036854775807 : Int64))), .second, .val (.int ((1051 : Int32) - ee))] [(.int (64 : Int32)), (.int ((1051 : Int32) - ee))])) _
            exact k)
          by_cases h5 : 1051 - ee < 64
          · skip
            have hf : own_exp 42 1008 31 1039 1051 (sS <<< ((15 : Int32).toInt64 &&& 63)) ee ff (bits &&& (9223372036854775807 : Int64)) = ((sS <<< ((15 : Int32).toInt64 &&& 63)) ||| (XT.ushrL ((4503599627370496 : Int64) ||| ff) ((1051 : Int32) - ee))) := by unfold own_exp; rw [if_neg h1, if_neg h2, if_pos h3, if_neg h4, if_pos h5]
            have pre7 : ∀ t, Steps p.tables e below (s₁.setTop (mkF m 206 #[.val (.int p1), .val (.long sS), .second, .val (.int ee), .val (.long ff), .second, .val (.long bits), .second, .val (.int (15 : Int32)), .val (.int (42 : Int32)), .val (.int (1008 : Int32)), .val (.int (31 : Int32)), .val (.int (1039 : Int32)), .val (.int (1051 : Int32)), .val (.long (sS <<< ((15 : Int32).toInt64 &&& 63))), .second, .val (.long (bits &&& (9223372036854775807 : Int64))), .second, .val (.int ((1051 : Int32) - ee))] [(.long ((sS <<< ((15 : Int32).toInt64 &&& 63)) ||| (XT.ushrL ((4503599627370496 : Int64) ||| ff) ((1051 : Int32) - ee))))])) t → Steps p.tables e below (s₁.setTop (entryFrame m #[(.int p1), (.long sS), (.int ee), (.long ff), (.long bits)] 19)) t := fun t k => pre6 t (by
              show Steps p.tables e below (s₁.setTop (mkF m 188 #[.val (.int p1), .val (.long sS), .second, .val (.int ee), .val (.long ff), .second, .val (.long bits), .second, .val (.int (15 : Int32)), .val (.int (42 : Int32)), .val (.int (1008 : Int32)), .val (.int (31 : Int32)), .val (.int (1039 : Int32)), .val (.int (1051 : Int32)), .val (.long (sS <<< ((15 : Int32).toInt64 &&& 63))), .second, .val (.long (bits &&& (9223372036854775807 : Int64))), .second, .val (.int ((1051 : Int32) - ee))] [(.int (64 : Int32)), (.int ((1051 : Int32) - ee))])) _
              refine XS.icmpYes X0.here hx rfl (pc0 := 188) (pc' := 194) rfl (hb hby dex0_188) rfl (XT.ii_lt_t h5) (by decide) (by decide) ?_
              show Steps p.tables e below (s₁.setTop (mkF m 194 #[.val (.int p1), .val (.long sS), .second, .val (.int ee), .val (.long ff), .second, .val (.long bits), .second, .val (.int (15 : Int32)), .val (.int (42 : Int32)), .val (.int (1008 : Int32)), .val (.int (31 : Int32)), .val (.int (1039 : Int32)), .val (.int (1051 : Int32)), .val (.long (sS <<< ((15 : Int32).toInt64 &&& 63))), .second, .val (.long (bits &&& (9223372036854775807 : Int64))), .second, .val (.int ((1051 : Int32) - ee))] [])) _
              refine XT.lload X0.here hx rfl (hb hby dex0_194) rfl ?_
              show Steps p.tables e below (s₁.setTop (mkF m 196 #[.val (.int p1), .val (.long sS), .second, .val (.int ee), .val (.long ff), .second, .val (.long bits), .second, .val (.int (15 : Int32)), .val (.int (42 : Int32)), .val (.int (1008 : Int32)), .val (.int (31 : Int32)), .val (.int (1039 : Int32)), .val (.int (1051 : Int32)), .val (.long (sS <<< ((15 : Int32).toInt64 &&& 63))), .second, .val (.long (bits &&& (9223372036854775807 : Int64))), .second, .val (.int ((1051 : Int32) - ee))] [(.long (sS <<< ((15 : Int32).toInt64 &&& 63)))])) _
              refine X0.ldc2J hx hown (mvT hZ (hw _ (List.mem_of_getElem? (i := 27) rfl))) rfl (hb hby dex0_196) ?_
              show Steps p.tables e below (s₁.setTop (mkF m 199 #[.val (.int p1), .val (.long sS), .second, .val (.int ee), .val (.long ff), .second, .val (.long bits), .second, .val (.int (15 : Int32)), .val (.int (42 : Int32)), .val (.int (1008 : Int32)), .val (.int (31 : Int32)), .val (.int (1039 : Int32)), .val (.int (1051 : Int32)), .val (.long (sS <<< ((15 : Int32).toInt64 &&& 63))), .second, .val (.long (bits &&& (9223372036854775807 : Int64))), .second, .val (.int ((1051 : Int32) - ee))] [(.long (4503599627370496 : Int64)), (.long (sS <<< ((15 : Int32).toInt64 &&& 63)))])) _
              refine XT.lload X0.here hx rfl (hb hby dex0_199) rfl ?_
              show Steps p.tables e below (s₁.setTop (mkF m 201 #[.val (.int p1), .val (.long sS), .second, .val (.int ee), .val (.long ff), .second, .val (.long bits), .second, .val (.int (15 : Int32)), .val (.int (42 : Int32)), .val (.int (1008 : Int32)), .val (.int (31 : Int32)), .val (.int (1039 : Int32)), .val (.int (1051 : Int32)), .val (.long (sS <<< ((15 : Int32).toInt64 &&& 63))), .second, .val (.long (bits &&& (9223372036854775807 : Int64))), .second, .val (.int ((1051 : Int32) - ee))] [(.long ff), (.long (4503599627370496 : Int64)), (.long (sS <<< ((15 : Int32).toInt64 &&& 63)))])) _
              refine XT.lor X0.here hx rfl (hb hby dex0_201) rfl ?_
              show Steps p.tables e below (s₁.setTop (mkF m 202 #[.val (.int p1), .val (.long sS), .second, .val (.int ee), .val (.long ff), .second, .val (.long bits), .second, .val (.int (15 : Int32)), .val (.int (42 : Int32)), .val (.int (1008 : Int32)), .val (.int (31 : Int32)), .val (.int (1039 : Int32)), .val (.int (1051 : Int32)), .val (.long (sS <<< ((15 : Int32).toInt64 &&& 63))), .second, .val (.long (bits &&& (9223372036854775807 : Int64))), .second, .val (.int ((1051 : Int32) - ee))] [(.long ((4503599627370496 : Int64) ||| ff)), (.long (sS <<< ((15 : Int32).toInt64 &&& 63)))])) _
              refine XS.iload X0.here hx rfl (hb hby dex0_202) rfl ?_
              show Steps p.tables e below (s₁.setTop (mkF m 204 #[.val (.int p1), .val (.long sS), .second, .val (.int ee), .val (.long ff), .second, .val (.long bits), .second, .val (.int (15 : Int32)), .val (.int (42 : Int32)), .val (.int (1008 : Int32)), .val (.int (31 : Int32)), .val (.int (1039 : Int32)), .val (.int (1051 : Int32)), .val (.long (sS <<< ((15 : Int32).toInt64 &&& 63))), .second, .val (.long (bits &&& (9223372036854775807 : Int64))), .second, .val (.int ((1051 : Int32) - ee))] [(.int ((1051 : Int32) - ee)), (.long ((4503599627370496 : Int64) ||| ff)), (.long (sS <<< ((15 : Int32).toInt64 &&& 63)))])) _
              refine XT.lushr X0.here hx rfl (hb hby dex0_204) rfl ?_
              show Steps p.tables e below (s₁.setTop (mkF m 205 #[.val (.int p1), .val (.long sS), .second, .val (.int ee), .val (.long ff), .second, .val (.long bits), .second, .val (.int (15 : Int32)), .val (.int (42 : Int32)), .val (.int (1008 : Int32)), .val (.int (31 : Int32)), .val (.int (1039 : Int32)), .val (.int (1051 : Int32)), .val (.long (sS <<< ((15 : Int32).toInt64 &&& 63))), .second, .val (.long (bits &&& (9223372036854775807 : Int64))), .second, .val (.int ((1051 : Int32) - ee))] [(.long (XT.ushrL ((4503599627370496 : Int64) ||| ff) ((1051 : Int32) - ee))), (.long (sS <<< ((15 : Int32).toInt64 &&& 63)))])) _
              refine XT.lor X0.here hx rfl (hb hby dex0_205) rfl ?_
              show Steps p.tables e below (s₁.setTop (mkF m 206 #[.val (.int p1), .val (.long sS), .second, .val (.int ee), .val (.long ff), .second, .val (.long bits), .second, .val (.int (15 : Int32)), .val (.int (42 : Int32)), .val (.int (1008 : Int32)), .val (.int (31 : Int32)), .val (.int (1039 : Int32)), .val (.int (1051 : Int32)), .val (.long (sS <<< ((15 : Int32).toInt64 &&& 63))), .second, .val (.long (bits &&& (9223372036854775807 : Int64))), .second, .val (.int ((1051 : Int32) - ee))] [(.long ((sS <<< ((15 : Int32).toInt64 &&& 63)) ||| (XT.ushrL ((4503599627370496 : Int64) ||| ff) ((1051 : Int32) - ee))))])) _
              exact k)
            obtain ⟨fs, hr, hrun, hended, hW, hsame⟩ := X0.leave (v := some (.long ((sS <<< ((15 : Int32).toInt64 &&& 63)) ||| (XT.ushrL ((4503599627370496 : Int64) ||| ff) ((1051 : Int32) - ee))))) (fun h => by rw [Bd.returns] at h; cases h)
            refine ⟨_, _, pre7 _ ?_, hrun, hended, _, _, rfl, ?_, ⟨_, rfl⟩, hW, hsame.mono (by decide) (by decide)⟩
            · exact X0.lreturnOut hx Bd.returns (hb hby dex0_206) hr
            · show Q_ex0 Z p1 sS ee ff bits h0 n0 _ s₁.heap _
              unfold Q_ex0; rw [hf]
              rw [e0]
              exact ⟨rfl, N0, rfl⟩
          · skip
            have hf : own_exp 42 1008 31 1039 1051 (sS <<< ((15 : Int32).toInt64 &&& 63)) ee ff (bits &&& (9223372036854775807 : Int64)) = (sS <<< ((15 : Int32).toInt64 &&& 63)) := by unfold own_exp; rw [if_neg h1, if_neg h2, if_pos h3, if_neg h4, if_neg h5]
            have pre7 : ∀ t, Steps p.tables e below (s₁.setTop (mkF m 193 #[.val (.int p1), .val (.long sS), .second, .val (.int ee), .val (.long ff), .second, .val (.long bits), .second, .val (.int (15 : Int32)), .val (.int (42 : Int32)), .val (.int (1008 : Int32)), .val (.int (31 : Int32)), .val (.int (1039 : Int32)), .val (.int (1051 : Int32)), .val (.long (sS <<< ((15 : Int32).toInt64 &&& 63))), .second, .val (.long (bits &&& (9223372036854775807 : Int64))), .second, .val (.int ((1051 : Int32) - ee))] [(.long (sS <<< ((15 : Int32).toInt64 &&& 63)))])) t → Steps p.tables e below (s₁.setTop (entryFrame m #[(.int p1), (.long sS), (.int ee), (.long ff), (.long bits)] 19)) t := fun t k => pre6 t (by
              show Steps p.tables e below (s₁.setTop (mkF m 188 #[.val (.int p1), .val (.long sS), .second, .val (.int ee), .val (.long ff), .second, .val (.long bits), .second, .val (.int (15 : Int32)), .val (.int (42 : Int32)), .val (.int (1008 : Int32)), .val (.int (31 : Int32)), .val (.int (1039 : Int32)), .val (.int (1051 : Int32)), .val (.long (sS <<< ((15 : Int32).toInt64 &&& 63))), .second, .val (.long (bits &&& (9223372036854775807 : Int64))), .second, .val (.int ((1051 : Int32) - ee))] [(.int (64 : Int32)), (.int ((1051 : Int32) - ee))])) _
              refine XS.icmpNo X0.here hx rfl (hb hby dex0_188) rfl (XT.ii_lt_f h5) ?_
              show Steps p.tables e below (s₁.setTop (mkF m 191 #[.val (.int p1), .val (.long sS), .second, .val (.int ee), .val (.long ff), .second, .val (.long bits), .second, .val (.int (15 : Int32)), .val (.int (42 : Int32)), .val (.int (1008 : Int32)), .val (.int (31 : Int32)), .val (.int (1039 : Int32)), .val (.int (1051 : Int32)), .val (.long (sS <<< ((15 : Int32).toInt64 &&& 63))), .second, .val (.long (bits &&& (9223372036854775807 : Int64))), .second, .val (.int ((1051 : Int32) - ee))] [])) _
              refine XT.lload X0.here hx rfl (hb hby dex0_191) rfl ?_
              show Steps p.tables e below (s₁.setTop (mkF m 193 #[.val (.int p1), .val (.long sS), .second, .val (.int ee), .val (.long ff), .second, .val (.long bits), .second, .val (.int (15 : Int32)), .val (.int (42 : Int32)), .val (.int (1008 : Int32)), .val (.int (31 : Int32)), .val (.int (1039 : Int32)), .val (.int (1051 : Int32)), .val (.long (sS <<< ((15 : Int32).toInt64 &&& 63))), .second, .val (.long (bits &&& (9223372036854775807 : Int64))), .second, .val (.int ((1051 : Int32) - ee))] [(.long (sS <<< ((15 : Int32).toInt64 &&& 63)))])) _
              exact k)
            obtain ⟨fs, hr, hrun, hended, hW, hsame⟩ := X0.leave (v := some (.long (sS <<< ((15 : Int32).toInt64 &&& 63)))) (fun h => by rw [Bd.returns] at h; cases h)
            refine ⟨_, _, pre7 _ ?_, hrun, hended, _, _, rfl, ?_, ⟨_, rfl⟩, hW, hsame.mono (by decide) (by decide)⟩
            · exact X0.lreturnOut hx Bd.returns (hb hby dex0_193) hr
            · show Q_ex0 Z p1 sS ee ff bits h0 n0 _ s₁.heap _
              unfold Q_ex0; rw [hf]
              rw [e0]
              exact ⟨rfl, N0, rfl⟩
      · skip
        have hf : own_exp 42 1008 31 1039 1051 (sS <<< ((15 : Int32).toInt64 &&& 63)) ee ff (bits &&& (9223372036854775807 : Int64)) = ((sS <<< ((15 : Int32).toInt64 &&& 63)) ||| (XT.ushrL (((31 : Int32).toInt64) <<< ((52 : Int32).toInt64 &&& 63)) (42 : Int32))) := by unfold own_exp; rw [if_neg h1, if_neg h2, if_neg h3]
        have pre5 : ∀ t, Steps p.tables e below (s₁.setTop (mkF m 155 #[.val (.int p1), .val (.long sS), .second, .val (.int ee), .val (.long ff), .second, .val (.long bits), .second, .val (.int (15 : Int32)), .val (.int (42 : Int32)), .val (.int (1008 : Int32)), .val (.int (31 : Int32)), .val (.int (1039 : Int32)), .val (.int (1051 : Int32)), .val (.long (sS <<< ((15 : Int32).toInt64 &&& 63))), .second, .val (.long (bits &&& (9223372036854775807 : Int64))), .second, .unset] [(.long ((sS <<< ((15 : Int32).toInt64 &&& 63)) ||| (XT.ushrL (((31 : Int32).toInt64) <<< ((52 : Int32).toInt64 &&& 63)) (42 : Int32))))])) t → Steps p.tables e below (s₁.setTop (entryFrame m #[(.int p1), (.long sS), (.int ee), (.long ff), (.long bits)] 19)) t := fun t k => pre4 t (by
          show Steps p.tables e below (s₁.setTop (mkF m 140 #[.val (.int p1), .val (.long sS), .second, .val (.int ee), .val (.long ff), .second, .val (.long bits), .second, .val (.int (15 : Int32)), .val (.int (42 : Int32)), .val (.int (1008 : Int32)), .val (.int (31 : Int32)), .val (.int (1039 : Int32)), .val (.int (1051 : Int32)), .val (.long (sS <<< ((15 : Int32).toInt64 &&& 63))), .second, .val (.long (bits &&& (9223372036854775807 : Int64))), .second, .unset] [(.int (1039 : Int32)), (.int ee)])) _
          refine XS.icmpNo X0.here hx rfl (hb hby dex0_140) rfl (XT.ii_lt_f h3) ?_
          show Steps p.tables e below (s₁.setTop (mkF m 143 #[.val (.int p1), .val (.long sS), .second, .val (.int ee), .val (.long ff), .second, .val (.long bits), .second, .val (.int (15 : Int32)), .val (.int (42 : Int32)), .val (.int (1008 : Int32)), .val (.int (31 : Int32)), .val (.int (1039 : Int32)), .val (.int (1051 : Int32)), .val (.long (sS <<< ((15 : Int32).toInt64 &&& 63))), .second, .val (.long (bits &&& (9223372036854775807 : Int64))), .second, .unset] [])) _
          refine XT.lload X0.here hx rfl (hb hby dex0_143) rfl ?_
          show Steps p.tables e below (s₁.setTop (mkF m 145 #[.val (.int p1), .val (.long sS), .second, .val (.int ee), .val (.long ff), .second, .val (.long bits), .second, .val (.int (15 : Int32)), .val (.int (42 : Int32)), .val (.int (1008 : Int32)), .val (.int (31 : Int32)), .val (.int (1039 : Int32)), .val (.int (1051 : Int32)), .val (.long (sS <<< ((15 : Int32).toInt64 &&& 63))), .second, .val (.long (bits &&& (9223372036854775807 : Int64))), .second, .unset] [(.long (sS <<< ((15 : Int32).toInt64 &&& 63)))])) _
          refine XS.iload X0.here hx rfl (hb hby dex0_145) rfl ?_
          show Steps p.tables e below (s₁.setTop (mkF m 147 #[.val (.int p1), .val (.long sS), .second, .val (.int ee), .val (.long ff), .second, .val (.long bits), .second, .val (.int (15 : Int32)), .val (.int (42 : Int32)), .val (.int (1008 : Int32)), .val (.int (31 : Int32)), .val (.int (1039 : Int32)), .val (.int (1051 : Int32)), .val (.long (sS <<< ((15 : Int32).toInt64 &&& 63))), .second, .val (.long (bits &&& (9223372036854775807 : Int64))), .second, .unset] [(.int (31 : Int32)), (.long (sS <<< ((15 : Int32).toInt64 &&& 63)))])) _
          refine XT.i2l X0.here hx rfl (hb hby dex0_147) rfl ?_
          show Steps p.tables e below (s₁.setTop (mkF m 148 #[.val (.int p1), .val (.long sS), .second, .val (.int ee), .val (.long ff), .second, .val (.long bits), .second, .val (.int (15 : Int32)), .val (.int (42 : Int32)), .val (.int (1008 : Int32)), .val (.int (31 : Int32)), .val (.int (1039 : Int32)), .val (.int (1051 : Int32)), .val (.long (sS <<< ((15 : Int32).toInt64 &&& 63))), .second, .val (.long (bits &&& (9223372036854775807 : Int64))), .second, .unset] [(.long ((31 : Int32).toInt64)), (.long (sS <<< ((15 : Int32).toInt64 &&& 63)))])) _
          refine XS.bipush X0.here hx rfl (hb hby dex0_148) ?_
          show Steps p.tables e below (s₁.setTop (mkF m 150 #[.val (.int p1), .val (.long sS), .second, .val (.int ee), .val (.long ff), .second, .val (.long bits), .second, .val (.int (15 : Int32)), .val (.int (42 : Int32)), .val (.int (1008 : Int32)), .val (.int (31 : Int32)), .val (.int (1039 : Int32)), .val (.int (1051 : Int32)), .val (.long (sS <<< ((15 : Int32).toInt64 &&& 63))), .second, .val (.long (bits &&& (9223372036854775807 : Int64))), .second, .unset] [(.int (52 : Int32)), (.long ((31 : Int32).toInt64)), (.long (sS <<< ((15 : Int32).toInt64 &&& 63)))])) _
          refine XT.lshl X0.here hx rfl (hb hby dex0_150) rfl ?_
          show Steps p.tables e below (s₁.setTop (mkF m 151 #[.val (.int p1), .val (.long sS), .second, .val (.int ee), .val (.long ff), .second, .val (.long bits), .second, .val (.int (15 : Int32)), .val (.int (42 : Int32)), .val (.int (1008 : Int32)), .val (.int (31 : Int32)), .val (.int (1039 : Int32)), .val (.int (1051 : Int32)), .val (.long (sS <<< ((15 : Int32).toInt64 &&& 63))), .second, .val (.long (bits &&& (9223372036854775807 : Int64))), .second, .unset] [(.long (((31 : Int32).toInt64) <<< ((52 : Int32).toInt64 &&& 63))), (.long (sS <<< ((15 : Int32).toInt64 &&& 63)))])) _
          refine XS.iload X0.here hx rfl (hb hby dex0_151) rfl ?_
          show Steps p.tables e below (s₁.setTop (mkF m 153 #[.val (.int p1), .val (.long sS), .second, .val (.int ee), .val (.long ff), .second, .val (.long bits), .second, .val (.int (15 : Int32)), .val (.int (42 : Int32)), .val (.int (1008 : Int32)), .val (.int (31 : Int32)), .val (.int (1039 : Int32)), .val (.int (1051 : Int32)), .val (.long (sS <<< ((15 : Int32).toInt64 &&& 63))), .second, .val (.long (bits &&& (9223372036854775807 : Int64))), .second, .unset] [(.int (42 : Int32)), (.long (((31 : Int32).toInt64) <<< ((52 : Int32).toInt64 &&& 63))), (.long (sS <<< ((15 : Int32).toInt64 &&& 63)))])) _
          refine XT.lushr X0.here hx rfl (hb hby dex0_153) rfl ?_
          show Steps p.tables e below (s₁.setTop (mkF m 154 #[.val (.int p1), .val (.long sS), .second, .val (.int ee), .val (.long ff), .second, .val (.long bits), .second, .val (.int (15 : Int32)), .val (.int (42 : Int32)), .val (.int (1008 : Int32)), .val (.int (31 : Int32)), .val (.int (1039 : Int32)), .val (.int (1051 : Int32)), .val (.long (sS <<< ((15 : Int32).toInt64 &&& 63))), .second, .val (.long (bits &&& (9223372036854775807 : Int64))), .second, .unset] [(.long (XT.ushrL (((31 : Int32).toInt64) <<< ((52 : Int32).toInt64 &&& 63)) (42 : Int32))), (.long (sS <<< ((15 : Int32).toInt64 &&& 63)))])) _
          refine XT.lor X0.here hx rfl (hb hby dex0_154) rfl ?_
          show Steps p.tables e below (s₁.setTop (mkF m 155 #[.val (.int p1), .val (.long sS), .second, .val (.int ee), .val (.long ff), .second, .val (.long bits), .second, .val (.int (15 : Int32)), .val (.int (42 : Int32)), .val (.int (1008 : Int32)), .val (.int (31 : Int32)), .val (.int (1039 : Int32)), .val (.int (1051 : Int32)), .val (.long (sS <<< ((15 : Int32).toInt64 &&& 63))), .second, .val (.long (bits &&& (9223372036854775807 : Int64))), .second, .unset] [(.long ((sS <<< ((15 : Int32).toInt64 &&& 63)) ||| (XT.ushrL (((31 : Int32).toInt64) <<< ((52 : Int32).toInt64 &&& 63)) (42 : Int32))))])) _
          exact k)
        obtain ⟨fs, hr, hrun, hended, hW, hsame⟩ := X0.leave (v := some (.long ((sS <<< ((15 : Int32).toInt64 &&& 63)) ||| (XT.ushrL (((31 : Int32).toInt64) <<< ((52 : Int32).toInt64 &&& 63)) (42 : Int32))))) (fun h => by rw [Bd.returns] at h; cases h)
        refine ⟨_, _, pre5 _ ?_, hrun, hended, _, _, rfl, ?_, ⟨_, rfl⟩, hW, hsame.mono (by decide) (by decide)⟩
        · exact X0.lreturnOut hx Bd.returns (hb hby dex0_155) hr
        · show Q_ex0 Z p1 sS ee ff bits h0 n0 _ s₁.heap _
          unfold Q_ex0; rw [hf]
          rw [e0]
          exact ⟨rfl, N0, rfl⟩
theorem dex1_0 : decode method_3_code 0 = .ok (.iload_n 0, 1) := by decide +kernel
theorem dex1_1 : decode method_3_code 1 = .ok (.iconst 2, 1) := by decide +kernel
theorem dex1_2 : decode method_3_code 2 = .ok (.if_icmp .ne 6, 3) := by decide +kernel
theorem dex1_8 : decode method_3_code 8 = .ok (.iload_n 0, 1) := by decide +kernel
theorem dex1_9 : decode method_3_code 9 = .ok (.ifCond .ne 8, 3) := by decide +kernel
theorem dex1_17 : decode method_3_code 17 = .ok (.bipush 31, 2) := by decide +kernel
theorem dex1_19 : decode method_3_code 19 = .ok (.istore 8, 2) := by decide +kernel
theorem dex1_21 : decode method_3_code 21 = .ok (.iload_n 0, 1) := by decide +kernel
theorem dex1_22 : decode method_3_code 22 = .ok (.ifCond .ne 8, 3) := by decide +kernel
theorem dex1_30 : decode method_3_code 30 = .ok (.bipush 29, 2) := by decide +kernel
theorem dex1_32 : decode method_3_code 32 = .ok (.istore 9, 2) := by decide +kernel
theorem dex1_34 : decode method_3_code 34 = .ok (.iload_n 0, 1) := by decide +kernel
theorem dex1_35 : decode method_3_code 35 = .ok (.ifCond .ne 9, 3) := by decide +kernel
theorem dex1_44 : decode method_3_code 44 = .ok (.sipush 896, 3) := by decide +kernel
theorem dex1_47 : decode method_3_code 47 = .ok (.istore 10, 2) := by decide +kernel
theorem dex1_49 : decode method_3_code 49 = .ok (.iload_n 0, 1) := by decide +kernel
theorem dex1_50 : decode method_3_code 50 = .ok (.ifCond .ne 8, 3) := by decide +kernel
theorem dex1_58 : decode method_3_code 58 = .ok (.sipush 255, 3) := by decide +kernel
theorem dex1_61 : decode method_3_code 61 = .ok (.istore 11, 2) := by decide +kernel
theorem dex1_63 : decode method_3_code 63 = .ok (.iload_n 0, 1) := by decide +kernel
theorem dex1_64 : decode method_3_code 64 = .ok (.ifCond .ne 9, 3) := by decide +kernel
theorem dex1_73 : decode method_3_code 73 = .ok (.sipush 1151, 3) := by decide +kernel
theorem dex1_76 : decode method_3_code 76 = .ok (.istore 12, 2) := by decide +kernel
theorem dex1_78 : decode method_3_code 78 = .ok (.iload_n 0, 1) := by decide +kernel
theorem dex1_79 : decode method_3_code 79 = .ok (.ifCond .ne 9, 3) := by decide +kernel
theorem dex1_88 : decode method_3_code 88 = .ok (.sipush 926, 3) := by decide +kernel
theorem dex1_91 : decode method_3_code 91 = .ok (.istore 13, 2) := by decide +kernel
theorem dex1_93 : decode method_3_code 93 = .ok (.lload_n 1, 1) := by decide +kernel
theorem dex1_94 : decode method_3_code 94 = .ok (.iload 8, 2) := by decide +kernel
theorem dex1_96 : decode method_3_code 96 = .ok (.lshl, 1) := by decide +kernel
theorem dex1_97 : decode method_3_code 97 = .ok (.lstore 14, 2) := by decide +kernel
theorem dex1_99 : decode method_3_code 99 = .ok (.lload 6, 2) := by decide +kernel
theorem dex1_101 : decode method_3_code 101 = .ok (.ldc2_w 32, 3) := by decide +kernel
theorem dex1_104 : decode method_3_code 104 = .ok (.land, 1) := by decide +kernel
theorem dex1_105 : decode method_3_code 105 = .ok (.lstore 16, 2) := by decide +kernel
theorem dex1_107 : decode method_3_code 107 = .ok (.iload_n 3, 1) := by decide +kernel
theorem dex1_108 : decode method_3_code 108 = .ok (.sipush 2047, 3) := by decide +kernel
theorem dex1_111 : decode method_3_code 111 = .ok (.if_icmp .ne 19, 3) := by decide +kernel
theorem dex1_114 : decode method_3_code 114 = .ok (.lload 14, 2) := by decide +kernel
theorem dex1_116 : decode method_3_code 116 = .ok (.iload 11, 2) := by decide +kernel
theorem dex1_118 : decode method_3_code 118 = .ok (.i2l, 1) := by decide +kernel
theorem dex1_119 : decode method_3_code 119 = .ok (.bipush 52, 2) := by decide +kernel
theorem dex1_121 : decode method_3_code 121 = .ok (.lshl, 1) := by decide +kernel
theorem dex1_122 : decode method_3_code 122 = .ok (.lload 4, 2) := by decide +kernel
theorem dex1_124 : decode method_3_code 124 = .ok (.lor, 1) := by decide +kernel
theorem dex1_125 : decode method_3_code 125 = .ok (.iload 9, 2) := by decide +kernel
theorem dex1_127 : decode method_3_code 127 = .ok (.lushr, 1) := by decide +kernel
theorem dex1_128 : decode method_3_code 128 = .ok (.lor, 1) := by decide +kernel
theorem dex1_129 : decode method_3_code 129 = .ok (.lreturn, 1) := by decide +kernel
theorem dex1_130 : decode method_3_code 130 = .ok (.iload_n 3, 1) := by decide +kernel
theorem dex1_131 : decode method_3_code 131 = .ok (.ifCond .ne 6, 3) := by decide +kernel
theorem dex1_134 : decode method_3_code 134 = .ok (.lload 14, 2) := by decide +kernel
theorem dex1_136 : decode method_3_code 136 = .ok (.lreturn, 1) := by decide +kernel
theorem dex1_137 : decode method_3_code 137 = .ok (.iload_n 3, 1) := by decide +kernel
theorem dex1_138 : decode method_3_code 138 = .ok (.iload 12, 2) := by decide +kernel
theorem dex1_140 : decode method_3_code 140 = .ok (.if_icmp .lt 16, 3) := by decide +kernel
theorem dex1_143 : decode method_3_code 143 = .ok (.lload 14, 2) := by decide +kernel
theorem dex1_145 : decode method_3_code 145 = .ok (.iload 11, 2) := by decide +kernel
theorem dex1_147 : decode method_3_code 147 = .ok (.i2l, 1) := by decide +kernel
theorem dex1_148 : decode method_3_code 148 = .ok (.bipush 52, 2) := by decide +kernel
theorem dex1_150 : decode method_3_code 150 = .ok (.lshl, 1) := by decide +kernel
theorem dex1_151 : decode method_3_code 151 = .ok (.iload 9, 2) := by decide +kernel
theorem dex1_153 : decode method_3_code 153 = .ok (.lushr, 1) := by decide +kernel
theorem dex1_154 : decode method_3_code 154 = .ok (.lor, 1) := by decide +kernel
theorem dex1_155 : decode method_3_code 155 = .ok (.lreturn, 1) := by decide +kernel
theorem dex1_156 : decode method_3_code 156 = .ok (.iload_n 3, 1) := by decide +kernel
theorem dex1_157 : decode method_3_code 157 = .ok (.iload 10, 2) := by decide +kernel
theorem dex1_159 : decode method_3_code 159 = .ok (.if_icmp .le 19, 3) := by decide +kernel
theorem dex1_162 : decode method_3_code 162 = .ok (.lload 14, 2) := by decide +kernel
theorem dex1_164 : decode method_3_code 164 = .ok (.lload 16, 2) := by decide +kernel
theorem dex1_166 : decode method_3_code 166 = .ok (.iload 10, 2) := by decide +kernel
theorem dex1_168 : decode method_3_code 168 = .ok (.i2l, 1) := by decide +kernel
theorem dex1_169 : decode method_3_code 169 = .ok (.bipush 52, 2) := by decide +kernel
theorem dex1_171 : decode method_3_code 171 = .ok (.lshl, 1) := by decide +kernel
theorem dex1_172 : decode method_3_code 172 = .ok (.lsub, 1) := by decide +kernel
theorem dex1_173 : decode method_3_code 173 = .ok (.iload 9, 2) := by decide +kernel
theorem dex1_175 : decode method_3_code 175 = .ok (.lushr, 1) := by decide +kernel
theorem dex1_176 : decode method_3_code 176 = .ok (.lor, 1) := by decide +kernel
theorem dex1_177 : decode method_3_code 177 = .ok (.lreturn, 1) := by decide +kernel
theorem dex1_178 : decode method_3_code 178 = .ok (.iload 13, 2) := by decide +kernel
theorem dex1_180 : decode method_3_code 180 = .ok (.iload_n 3, 1) := by decide +kernel
theorem dex1_181 : decode method_3_code 181 = .ok (.isub, 1) := by decide +kernel
theorem dex1_182 : decode method_3_code 182 = .ok (.istore 18, 2) := by decide +kernel
theorem dex1_184 : decode method_3_code 184 = .ok (.iload 18, 2) := by decide +kernel
theorem dex1_186 : decode method_3_code 186 = .ok (.bipush 64, 2) := by decide +kernel
theorem dex1_188 : decode method_3_code 188 = .ok (.if_icmp .lt 6, 3) := by decide +kernel
theorem dex1_191 : decode method_3_code 191 = .ok (.lload 14, 2) := by decide +kernel
theorem dex1_193 : decode method_3_code 193 = .ok (.lreturn, 1) := by decide +kernel
theorem dex1_194 : decode method_3_code 194 = .ok (.lload 14, 2) := by decide +kernel
theorem dex1_196 : decode method_3_code 196 = .ok (.ldc2_w 34, 3) := by decide +kernel
theorem dex1_199 : decode method_3_code 199 = .ok (.lload 4, 2) := by decide +kernel
theorem dex1_201 : decode method_3_code 201 = .ok (.lor, 1) := by decide +kernel
theorem dex1_202 : decode method_3_code 202 = .ok (.iload 18, 2) := by decide +kernel
theorem dex1_204 : decode method_3_code 204 = .ok (.lushr, 1) := by decide +kernel
theorem dex1_205 : decode method_3_code 205 = .ok (.lor, 1) := by decide +kernel
theorem dex1_206 : decode method_3_code 206 = .ok (.lreturn, 1) := by decide +kernel
theorem pn_ex1 : plainName "com/example/samewire/samewire/FloatFormatNarrowPinLaw" = true := by first | (simp [plainName, overriddenIn]; done) | decide +kernel
theorem ef_ex1 (m : MethodId) (p1 : Int32) (sS : Int64) (ee : Int32) (ff : Int64) (bits : Int64) : entryFrame m #[(.int p1), (.long sS), (.int ee), (.long ff), (.long bits)] 19 = (mkF m 0 #[.val (.int p1), .val (.long sS), .second, .val (.int ee), .val (.long ff), .second, .val (.long bits), .second, .unset, .unset, .unset, .unset, .unset, .unset, .unset, .unset, .unset, .unset, .unset] []) := by first | (simp [entryFrame, mkF, argsToLocals, Value.category]; done) | rfl
def Q_ex1 (Z : State) (p1 : Int32) (sS : Int64) (ee : Int32) (ff bits : Int64) (h0 : Heap) (n0 : Nat) (v : Option Value) (h : Heap) (L : List Loc) : Prop := v = some (.long (own_exp 29 896 255 1151 926 (sS <<< ((31 : Int32).toInt64 &&& 63)) ee ff (bits &&& (9223372036854775807 : Int64)))) ∧ Fr n0 L ∧ h = h0
set_option maxRecDepth 65536 in
set_option maxHeartbeats 40000000 in
theorem rm_ex1 (l : Launch) (Z : State) (a0 : Array Value) (hw : ∀ d ∈ tables_1, d.before a0 Z = true) (ws : List Jvm.Cond) (p1 : Int32) (sS : Int64) (ee : Int32) (ff bits : Int64) (h0 : Heap) (n0 : Nat) (Z0 : n0 ≤ h0.size) (hw2 : ¬ p1 = 2) (hw0 : ¬ p1 = 0) :
    MetFree l (⟨"com/example/samewire/samewire/FloatFormatNarrowPinLaw", "expected", "(IJIJJ)J"⟩ : MethodName) (head1 (Jvm.Cond.code (⟨"com/example/samewire/samewire/FloatFormatNarrowPinLaw", "expected", "(IJIJJ)J"⟩ : MethodName) method_3_code 19 (some .long) :: ws) ({ frames := 0, cells := 0, slots := 0, locals := 0 } : Room)) (fun a U => a = #[(.int p1), (.long sS), (.int ee), (.long ff), (.long bits)] ∧ Z.Warmed39 U.vm ∧ U.heap = h0) (fun _ _ _ _ _ => True) (fun _ U o U' => ∃ v L, o = .returned v ∧ Q_ex1 Z p1 sS ee ff bits h0 n0 v U'.heap L ∧ FrameEnd U o U' L ({ frames := 0, cells := 0, slots := 0, locals := 0 } : Room).cells ({ frames := 0, cells := 0, slots := 0, locals := 0 } : Room).slots) := by
  refine MetFree.of_bodySF (plainFor_of_name pn_ex1) hisR ?_
  intro p e s m args below meth c s₁ Bd hml0 hP hK
  obtain ⟨rfl, hZ, hh⟩ := hP
  have hx := Bd.exec
  have hby := Bd.bytes
  have hml : c.maxLocals = 19 := hml0
  have hown : s.vm.findClass "com/example/samewire/samewire/FloatFormatNarrowPinLaw" = some m.cls := findClass_of_methodNamed Bd.named
  have hnm := (name_of_methodNamed Bd.named Bd.method).1
  have X0 : Stand p l e ({ frames := 0, cells := 0, slots := 0, locals := 0 } : Room) s m #[(.int p1), (.long sS), (.int ee), (.long ff), (.long bits)] below meth c s₁ [] 0 0 := Stand.of_body Bd
  have e0 : s₁.heap = h0 := by rw [← hh, Bd.state]; rfl
  have N0 := Fr.nil n0
  have pre0 : ∀ t, Steps p.tables e below (s₁.setTop (mkF m 0 #[.val (.int p1), .val (.long sS), .second, .val (.int ee), .val (.long ff), .second, .val (.long bits), .second, .unset, .unset, .unset, .unset, .unset, .unset, .unset, .unset, .unset, .unset, .unset] [])) t → Steps p.tables e below (s₁.setTop (entryFrame m #[(.int p1), (.long sS), (.int ee), (.long ff), (.long bits)] 19)) t := fun t k => castTop (ef_ex1 m p1 sS ee ff bits) k
  have pre2 : ∀ t, Steps p.tables e below (s₁.setTop (mkF m 111 #[.val (.int p1), .val (.long sS), .second, .val (.int ee), .val (.long ff), .second, .val (.long bits), .second, .val (.int (31 : Int32)), .val (.int (29 : Int32)), .val (.int (896 : Int32)), .val (.int (255 : Int32)), .val (.int (1151 : Int32)), .val (.int (926 : Int32)), .val (.long (sS <<< ((31 : Int32).toInt64 &&& 63))), .second, .val (.long (bits &&& (9223372036854775807 : Int64))), .second, .unset] [(.int (2047 : Int32)), (.int ee)])) t → Steps p.tables e below (s₁.setTop (entryFrame m #[(.int p1), (.long sS), (.int ee), (.long ff), (.long bits)] 19)) t := fun t k => pre0 t (by
    show Steps p.tables e below (s₁.setTop (mkF m 0 #[.val (.int p1), .val (.long sS), .second, .val (.int ee), .val (.long ff), .second, .val (.long bits), .second, .unset, .unset, .unset, .unset, .unset, .unset, .unset, .unset, .unset, .unset, .unset] [])) _
    refine XS.iloadN X0.here hx rfl (hb hby dex1_0) rfl ?_
    show Steps p.tables e below (s₁.setTop (mkF m 1 #[.val (.int p1), .val (.long sS), .second, .val (.int ee), .val (.long ff), .second, .val (.long bits), .second, .unset, .unset, .unset, .unset, .unset, .unset, .unset, .unset, .unset, .unset, .unset] [(.int p1)])) _
    refine XS.iconst X0.here hx rfl (hb hby dex1_1) ?_
    show Steps p.tables e below (s₁.setTop (mkF m 2 #[.val (.int p1), .val (.long sS), .second, .val (.int ee), .val (.long ff), .second, .val (.long bits), .second, .unset, .unset, .unset, .unset, .unset, .unset, .unset, .unset, .unset, .unset, .unset] [(.int (2 : Int32)), (.int p1)])) _
    refine XS.icmpYes X0.here hx rfl (pc0 := 2) (pc' := 8) rfl (hb hby dex1_2) rfl (XT.ii_ne_t hw2) (by decide) (by decide) ?_
    show Steps p.tables e below (s₁.setTop (mkF m 8 #[.val (.int p1), .val (.long sS), .second, .val (.int ee), .val (.long ff), .second, .val (.long bits), .second, .unset, .unset, .unset, .unset, .unset, .unset, .unset, .unset, .unset, .unset, .unset] [])) _
    refine XS.iloadN X0.here hx rfl (hb hby dex1_8) rfl ?_
    show Steps p.tables e below (s₁.setTop (mkF m 9 #[.val (.int p1), .val (.long sS), .second, .val (.int ee), .val (.long ff), .second, .val (.long bits), .second, .unset, .unset, .unset, .unset, .unset, .unset, .unset, .unset, .unset, .unset, .unset] [(.int p1)])) _
    refine XS.ifYes X0.here hx rfl (pc0 := 9) (pc' := 17) rfl (hb hby dex1_9) rfl (XT.i0_ne_t hw0) (by decide) (by decide) ?_
    show Steps p.tables e below (s₁.setTop (mkF m 17 #[.val (.int p1), .val (.long sS), .second, .val (.int ee), .val (.long ff), .second, .val (.long bits), .second, .unset, .unset, .unset, .unset, .unset, .unset, .unset, .unset, .unset, .unset, .unset] [])) _
    refine XS.bipush X0.here hx rfl (hb hby dex1_17) ?_
    show Steps p.tables e below (s₁.setTop (mkF m 19 #[.val (.int p1), .val (.long sS), .second, .val (.int ee), .val (.long ff), .second, .val (.long bits), .second, .unset, .unset, .unset, .unset, .unset, .unset, .unset, .unset, .unset, .unset, .unset] [(.int (31 : Int32))])) _
    refine XS.istore X0.here hx rfl (hb hby dex1_19) rfl (l' := #[.val (.int p1), .val (.long sS), .second, .val (.int ee), .val (.long ff), .second, .val (.long bits), .second, .val (.int (31 : Int32)), .unset, .unset, .unset, .unset, .unset, .unset, .unset, .unset, .unset, .unset]) rfl ?_
    show Steps p.tables e below (s₁.setTop (mkF m 21 #[.val (.int p1), .val (.long sS), .second, .val (.int ee), .val (.long ff), .second, .val (.long bits), .second, .val (.int (31 : Int32)), .unset, .unset, .unset, .unset, .unset, .unset, .unset, .unset, .unset, .unset] [])) _
    refine XS.iloadN X0.here hx rfl (hb hby dex1_21) rfl ?_
    show Steps p.tables e below (s₁.setTop (mkF m 22 #[.val (.int p1), .val (.long sS), .second, .val (.int ee), .val (.long ff), .second, .val (.long bits), .second, .val (.int (31 : Int32)), .unset, .unset, .unset, .unset, .unset, .unset, .unset, .unset, .unset, .unset] [(.int p1)])) _
    refine XS.ifYes X0.here hx rfl (pc0 := 22) (pc' := 30) rfl (hb hby dex1_22) rfl (XT.i0_ne_t hw0) (by decide) (by decide) ?_
    show Steps p.tables e below (s₁.setTop (mkF m 30 #[.val (.int p1), .val (.long sS), .second, .val (.int ee), .val (.long ff), .second, .val (.long bits), .second, .val (.int (31 : Int32)), .unset, .unset, .unset, .unset, .unset, .unset, .unset, .unset, .unset, .unset] [])) _
    refine XS.bipush X0.here hx rfl (hb hby dex1_30) ?_
    show Steps p.tables e below (s₁.setTop (mkF m 32 #[.val (.int p1), .val (.long sS), .second, .val (.int ee), .val (.long ff), .second, .val (.long bits), .second, .val (.int (31 : Int32)), .unset, .unset, .unset, .unset, .unset, .unset, .unset, .unset, .unset, .unset] [(.int (29 : Int32))])) _
    refine XS.istore X0.here hx rfl (hb hby dex1_32) rfl (l' := #[.val (.int p1), .val (.long sS), .second, .val (.int ee), .val (.long ff), .second, .val (.long bits), .second, .val (.int (31 : Int32)), .val (.int (29 : Int32)), .unset, .unset, .unset, .unset, .unset, .unset, .unset, .unset, .unset]) rfl ?_
    show Steps p.tables e below (s₁.setTop (mkF m 34 #[.val (.int p1), .val (.long sS), .second, .val (.int ee), .val (.long ff), .second, .val (.long bits), .second, .val (.int (31 : Int32)), .val (.int (29 : Int32)), .unset, .unset, .unset, .unset, .unset, .unset, .unset, .unset, .unset] [])) _
    refine XS.iloadN X0.here hx rfl (hb hby dex1_34) rfl ?_
    show Steps p.tables e below (s₁.setTop (mkF m 35 #[.val (.int p1), .val (.long sS), .second, .val (.int ee), .val (.long ff), .second, .val (.long bits), .second, .val (.int (31 : Int32)), .val (.int (29 : Int32)), .unset, .unset, .unset, .unset, .unset, .unset, .unset, .unset, .unset] [(.int p1)])) _
    refine XS.ifYes X0.here hx rfl (pc0 := 35) (pc' := 44) rfl (hb hby dex1_35) rfl (XT.i0_ne_t hw0) (by decide) (by decide) ?_
    show Steps p.tables e below (s₁.setTop (mkF m 44 #[.val (.int p1), .val (.long sS), .second, .val (.int ee), .val (.long ff), .second, .val (.long bits), .second, .val (.int (31 : Int32)), .val (.int (29 : Int32)), .unset, .unset, .unset, .unset, .unset, .unset, .unset, .unset, .unset] [])) _
    refine XS.sipush X0.here hx rfl (hb hby dex1_44) ?_
    show Steps p.tables e below (s₁.setTop (mkF m 47 #[.val (.int p1), .val (.long sS), .second, .val (.int ee), .val (.long ff), .second, .val (.long bits), .second, .val (.int (31 : Int32)), .val (.int (29 : Int32)), .unset, .unset, .unset, .unset, .unset, .unset, .unset, .unset, .unset] [(.int (896 : Int32))])) _
    refine XS.istore X0.here hx rfl (hb hby dex1_47) rfl (l' := #[.val (.int p1), .val (.long sS), .second, .val (.int ee), .val (.long ff), .second, .val (.long bits), .second, .val (.int (31 : Int32)), .val (.int (29 : Int32)), .val (.int (896 : Int32)), .unset, .unset, .unset, .unset, .unset, .unset, .unset, .unset]) rfl ?_
    show Steps p.tables e below (s₁.setTop (mkF m 49 #[.val (.int p1), .val (.long sS), .second, .val (.int ee), .val (.long ff), .second, .val (.long bits), .second, .val (.int (31 : Int32)), .val (.int (29 : Int32)), .val (.int (896 : Int32)), .unset, .unset, .unset, .unset, .unset, .unset, .unset, .unset] [])) _
    refine XS.iloadN X0.here hx rfl (hb hby dex1_49) rfl ?_
    show Steps p.tables e below (s₁.setTop (mkF m 50 #[.val (.int p1), .val (.long sS), .second, .val (.int ee), .val (.long ff), .second, .val (.long bits), .second, .val (.int (31 : Int32)), .val (.int (29 : Int32)), .val (.int (896 : Int32)), .unset, .unset, .unset, .unset, .unset, .unset, .unset, .unset] [(.int p1)])) _
    refine XS.ifYes X0.here hx rfl (pc0 := 50) (pc' := 58) rfl (hb hby dex1_50) rfl (XT.i0_ne_t hw0) (by decide) (by decide) ?_
    show Steps p.tables e below (s₁.setTop (mkF m 58 #[.val (.int p1), .val (.long sS), .second, .val (.int ee), .val (.long ff), .second, .val (.long bits), .second, .val (.int (31 : Int32)), .val (.int (29 : Int32)), .val (.int (896 : Int32)), .unset, .unset, .unset, .unset, .unset, .unset, .unset, .unset] [])) _
    refine XS.sipush X0.here hx rfl (hb hby dex1_58) ?_
    show Steps p.tables e below (s₁.setTop (mkF m 61 #[.val (.int p1), .val (.long sS), .second, .val (.int ee), .val (.long ff), .second, .val (.long bits), .second, .val (.int (31 : Int32)), .val (.int (29 : Int32)), .val (.int (896 : Int32)), .unset, .unset, .unset, .unset, .unset, .unset, .unset, .unset] [(.int (255 : Int32))])) _
    refine XS.istore X0.here hx rfl (hb hby dex1_61) rfl (l' := #[.val (.int p1), .val (.long sS), .second, .val (.int ee), .val (.long ff), .second, .val (.long bits), .second, .val (.int (31 : Int32)), .val (.int (29 : Int32)), .val (.int (896 : Int32)), .val (.int (255 : Int32)), .unset, .unset, .unset, .unset, .unset, .unset, .unset]) rfl ?_
    show Steps p.tables e below (s₁.setTop (mkF m 63 #[.val (.int p1), .val (.long sS), .second, .val (.int ee), .val (.long ff), .second, .val (.long bits), .second, .val (.int (31 : Int32)), .val (.int (29 : Int32)), .val (.int (896 : Int32)), .val (.int (255 : Int32)), .unset, .unset, .unset, .unset, .unset, .unset, .unset] [])) _
    refine XS.iloadN X0.here hx rfl (hb hby dex1_63) rfl ?_
    show Steps p.tables e below (s₁.setTop (mkF m 64 #[.val (.int p1), .val (.long sS), .second, .val (.int ee), .val (.long ff), .second, .val (.long bits), .second, .val (.int (31 : Int32)), .val (.int (29 : Int32)), .val (.int (896 : Int32)), .val (.int (255 : Int32)), .unset, .unset, .unset, .unset, .unset, .unset, .unset] [(.int p1)])) _
    refine XS.ifYes X0.here hx rfl (pc0 := 64) (pc' := 73) rfl (hb hby dex1_64) rfl (XT.i0_ne_t hw0) (by decide) (by decide) ?_
    show Steps p.tables e below (s₁.setTop (mkF m 73 #[.val (.int p1), .val (.long sS), .second, .val (.int ee), .val (.long ff), .second, .val (.long bits), .second, .val (.int (31 : Int32)), .val (.int (29 : Int32)), .val (.int (896 : Int32)), .val (.int (255 : Int32)), .unset, .unset, .unset, .unset, .unset, .unset, .unset] [])) _
    refine XS.sipush X0.here hx rfl (hb hby dex1_73) ?_
    show Steps p.tables e below (s₁.setTop (mkF m 76 #[.val (.int p1), .val (.long sS), .second, .val (.int ee), .val (.long ff), .second, .val (.long bits), .second, .val (.int (31 : Int32)), .val (.int (29 : Int32)), .val (.int (896 : Int32)), .val (.int (255 : Int32)), .unset, .unset, .unset, .unset, .unset, .unset, .unset] [(.int (1151 : Int32))])) _
    refine XS.istore X0.here hx rfl (hb hby dex1_76) rfl (l' := #[.val (.int p1), .val (.long sS), .second, .val (.int ee), .val (.long ff), .second, .val (.long bits), .second, .val (.int (31 : Int32)), .val (.int (29 : Int32)), .val (.int (896 : Int32)), .val (.int (255 : Int32)), .val (.int (1151 : Int32)), .unset, .unset, .unset, .unset, .unset, .unset]) rfl ?_
    show Steps p.tables e below (s₁.setTop (mkF m 78 #[.val (.int p1), .val (.long sS), .second, .val (.int ee), .val (.long ff), .second, .val (.long bits), .second, .val (.int (31 : Int32)), .val (.int (29 : Int32)), .val (.int (896 : Int32)), .val (.int (255 : Int32)), .val (.int (1151 : Int32)), .unset, .unset, .unset, .unset, .unset, .unset] [])) _
    refine XS.iloadN X0.here hx rfl (hb hby dex1_78) rfl ?_
    show Steps p.tables e below (s₁.setTop (mkF m 79 #[.val (.int p1), .val (.long sS), .second, .val (.int ee), .val (.long ff), .second, .val (.long bits), .second, .val (.int (31 : Int32)), .val (.int (29 : Int32)), .val (.int (896 : Int32)), .val (.int (255 : Int32)), .val (.int (1151 : Int32)), .unset, .unset, .unset, .unset, .unset, .unset] [(.int p1)])) _
    refine XS.ifYes X0.here hx rfl (pc0 := 79) (pc' := 88) rfl (hb hby dex1_79) rfl (XT.i0_ne_t hw0) (by decide) (by decide) ?_
    show Steps p.tables e below (s₁.setTop (mkF m 88 #[.val (.int p1), .val (.long sS), .second, .val (.int ee), .val (.long ff), .second, .val (.long bits), .second, .val (.int (31 : Int32)), .val (.int (29 : Int32)), .val (.int (896 : Int32)), .val (.int (255 : Int32)), .val (.int (1151 : Int32)), .unset, .unset, .unset, .unset, .unset, .unset] [])) _
    refine XS.sipush X0.here hx rfl (hb hby dex1_88) ?_
    show Steps p.tables e below (s₁.setTop (mkF m 91 #[.val (.int p1), .val (.long sS), .second, .val (.int ee), .val (.long ff), .second, .val (.long bits), .second, .val (.int (31 : Int32)), .val (.int (29 : Int32)), .val (.int (896 : Int32)), .val (.int (255 : Int32)), .val (.int (1151 : Int32)), .unset, .unset, .unset, .unset, .unset, .unset] [(.int (926 : Int32))])) _
    refine XS.istore X0.here hx rfl (hb hby dex1_91) rfl (l' := #[.val (.int p1), .val (.long sS), .second, .val (.int ee), .val (.long ff), .second, .val (.long bits), .second, .val (.int (31 : Int32)), .val (.int (29 : Int32)), .val (.int (896 : Int32)), .val (.int (255 : Int32)), .val (.int (1151 : Int32)), .val (.int (926 : Int32)), .unset, .unset, .unset, .unset, .unset]) rfl ?_
    show Steps p.tables e below (s₁.setTop (mkF m 93 #[.val (.int p1), .val (.long sS), .second, .val (.int ee), .val (.long ff), .second, .val (.long bits), .second, .val (.int (31 : Int32)), .val (.int (29 : Int32)), .val (.int (896 : Int32)), .val (.int (255 : Int32)), .val (.int (1151 : Int32)), .val (.int (926 : Int32)), .unset, .unset, .unset, .unset, .unset] [])) _
    refine XT.lloadN X0.here hx rfl (hb hby dex1_93) rfl ?_
    show Steps p.tables e below (s₁.setTop (mkF m 94 #[.val (.int p1), .val (.long sS), .second, .val (.int ee), .val (.long ff), .second, .val (.long bits), .second, .val (.int (31 : Int32)), .val (.int (29 : Int32)), .val (.int (896 : Int32)), .val (.int (255 : Int32)), .val (.int (1151 : Int32)), .val (.int (926 : Int32)), .unset, .unset, .unset, .unset, .unset] [(.long sS)])) _
    refine XS.iload X0.here hx rfl (hb hby dex1_94) rfl ?_
    show Steps p.tables e below (s₁.setTop (mkF m 96 #[.val (.int p1), .val (.long sS), .second, .val (.int ee), .val (.long ff), .second, .val (.long bits), .second, .val (.int (31 : Int32)), .val (.int (29 : Int32)), .val (.int (896 : Int32)), .val (.int (255 : Int32)), .val (.int (1151 : Int32)), .val (.int (926 : Int32)), .unset, .unset, .unset, .unset, .unset] [(.int (31 : Int32)), (.long sS)])) _
    refine XT.lshl X0.here hx rfl (hb hby dex1_96) rfl ?_
    show Steps p.tables e below (s₁.setTop (mkF m 97 #[.val (.int p1), .val (.long sS), .second, .val (.int ee), .val (.long ff), .second, .val (.long bits), .second, .val (.int (31 : Int32)), .val (.int (29 : Int32)), .val (.int (896 : Int32)), .val (.int (255 : Int32)), .val (.int (1151 : Int32)), .val (.int (926 : Int32)), .unset, .unset, .unset, .unset, .unset] [(.long (sS <<< ((31 : Int32).toInt64 &&& 63)))])) _
    refine XT.lstore X0.here hx rfl (hb hby dex1_97) rfl (l' := #[.val (.int p1), .val (.long sS), .second, .val (.int ee), .val (.long ff), .second, .val (.long bits), .second, .val (.int (31 : Int32)), .val (.int (29 : Int32)), .val (.int (896 : Int32)), .val (.int (255 : Int32)), .val (.int (1151 : Int32)), .val (.int (926 : Int32)), .val (.long (sS <<< ((31 : Int32).toInt64 &&& 63))), .second, .unset, .unset, .unset]) rfl ?_
    show Steps p.tables e below (s₁.setTop (mkF m 99 #[.val (.int p1), .val (.long sS), .second, .val (.int ee), .val (.long ff), .second, .val (.long bits), .second, .val (.int (31 : Int32)), .val (.int (29 : Int32)), .val (.int (896 : Int32)), .val (.int (255 : Int32)), .val (.int (1151 : Int32)), .val (.int (926 : Int32)), .val (.long (sS <<< ((31 : Int32).toInt64 &&& 63))), .second, .unset, .unset, .unset] [])) _
    refine XT.lload X0.here hx rfl (hb hby dex1_99) rfl ?_
    show Steps p.tables e below (s₁.setTop (mkF m 101 #[.val (.int p1), .val (.long sS), .second, .val (.int ee), .val (.long ff), .second, .val (.long bits), .second, .val (.int (31 : Int32)), .val (.int (29 : Int32)), .val (.int (896 : Int32)), .val (.int (255 : Int32)), .val (.int (1151 : Int32)), .val (.int (926 : Int32)), .val (.long (sS <<< ((31 : Int32).toInt64 &&& 63))), .second, .unset, .unset, .unset] [(.long bits)])) _
    refine X0.ldc2J hx hown (mvT hZ (hw _ (List.mem_of_getElem? (i := 24) rfl))) rfl (hb hby dex1_101) ?_
    show Steps p.tables e below (s₁.setTop (mkF m 104 #[.val (.int p1), .val (.long sS), .second, .val (.int ee), .val (.long ff), .second, .val (.long bits), .second, .val (.int (31 : Int32)), .val (.int (29 : Int32)), .val (.int (896 : Int32)), .val (.int (255 : Int32)), .val (.int (1151 : Int32)), .val (.int (926 : Int32)), .val (.long (sS <<< ((31 : Int32).toInt64 &&& 63))), .second, .unset, .unset, .unset] [(.long (9223372036854775807 : Int64)), (.long bits)])) _
    refine XT.land X0.here hx rfl (hb hby dex1_104) rfl ?_
    show Steps p.tables e below (s₁.setTop (mkF m 105 #[.val (.int p1), .val (.long sS), .second, .val (.int ee), .val (.long ff), .second, .val (.long bits), .second, .val (.int (31 : Int32)), .val (.int (29 : Int32)), .val (.int (896 : Int32)), .val (.int (255 : Int32)), .val (.int (1151 : Int32)), .val (.int (926 : Int32)), .val (.long (sS <<< ((31 : Int32).toInt64 &&& 63))), .second, .unset, .unset, .unset] [(.long (bits &&& (9223372036854775807 : Int64)))])) _
    refine XT.lstore X0.here hx rfl (hb hby dex1_105) rfl (l' := #[.val (.int p1), .val (.long sS), .second, .val (.int ee), .val (.long ff), .second, .val (.long bits), .second, .val (.int (31 : Int32)), .val (.int (29 : Int32)), .val (.int (896 : Int32)), .val (.int (255 : Int32)), .val (.int (1151 : Int32)), .val (.int (926 : Int32)), .val (.long (sS <<< ((31 : Int32).toInt64 &&& 63))), .second, .val (.long (bits &&& (9223372036854775807 : Int64))), .second, .unset]) rfl ?_
    show Steps p.tables e below (s₁.setTop (mkF m 107 #[.val (.int p1), .val (.long sS), .second, .val (.int ee), .val (.long ff), .second, .val (.long bits), .second, .val (.int (31 : Int32)), .val (.int (29 : Int32)), .val (.int (896 : Int32)), .val (.int (255 : Int32)), .val (.int (1151 : Int32)), .val (.int (926 : Int32)), .val (.long (sS <<< ((31 : Int32).toInt64 &&& 63))), .second, .val (.long (bits &&& (9223372036854775807 : Int64))), .second, .unset] [])) _
    refine XS.iloadN X0.here hx rfl (hb hby dex1_107) rfl ?_
    show Steps p.tables e below (s₁.setTop (mkF m 108 #[.val (.int p1), .val (.long sS), .second, .val (.int ee), .val (.long ff), .second, .val (.long bits), .second, .val (.int (31 : Int32)), .val (.int (29 : Int32)), .val (.int (896 : Int32)), .val (.int (255 : Int32)), .val (.int (1151 : Int32)), .val (.int (926 : Int32)), .val (.long (sS <<< ((31 : Int32).toInt64 &&& 63))), .second, .val (.long (bits &&& (9223372036854775807 : Int64))), .second, .unset] [(.int ee)])) _
    refine XS.sipush X0.here hx rfl (hb hby dex1_108) ?_
    show Steps p.tables e below (s₁.setTop (mkF m 111 #[.val (.int p1), .val (.long sS), .second, .val (.int ee), .val (.long ff), .second, .val (.long bits), .second, .val (.int (31 : Int32)), .val (.int (29 : Int32)), .val (.int (896 : Int32)), .val (.int (255 : Int32)), .val (.int (1151 : Int32)), .val (.int (926 : Int32)), .val (.long (sS <<< ((31 : Int32).toInt64 &&& 63))), .second, .val (.long (bits &&& (9223372036854775807 : Int64))), .second, .unset] [(.int (2047 : Int32)), (.int ee)])) _
    exact k)
  by_cases h1 : ee = 2047
  · skip
    have hf : own_exp 29 896 255 1151 926 (sS <<< ((31 : Int32).toInt64 &&& 63)) ee ff (bits &&& (9223372036854775807 : Int64)) = ((sS <<< ((31 : Int32).toInt64 &&& 63)) ||| (XT.ushrL ((((255 : Int32).toInt64) <<< ((52 : Int32).toInt64 &&& 63)) ||| ff) (29 : Int32))) := by unfold own_exp; rw [if_pos h1]
    have pre3 : ∀ t, Steps p.tables e below (s₁.setTop (mkF m 129 #[.val (.int p1), .val (.long sS), .second, .val (.int ee), .val (.long ff), .second, .val (.long bits), .second, .val (.int (31 : Int32)), .val (.int (29 : Int32)), .val (.int (896 : Int32)), .val (.int (255 : Int32)), .val (.int (1151 : Int32)), .val (.int (926 : Int32)), .val (.long (sS <<< ((31 : Int32).toInt64 &&& 63))), .second, .val (.long (bits &&& (9223372036854775807 : Int64))), .second, .unset] [(.long ((sS <<< ((31 : Int32).toInt64 &&& 63)) ||| (XT.ushrL ((((255 : Int32).toInt64) <<< ((52 : Int32).toInt64 &&& 63)) ||| ff) (29 : Int32))))])) t → Steps p.tables e below (s₁.setTop (entryFrame m #[(.int p1), (.long sS), (.int ee), (.long ff), (.long bits)] 19)) t := fun t k => pre2 t (by
      show Steps p.tables e below (s₁.setTop (mkF m 111 #[.val (.int p1), .val (.long sS), .second, .val (.int ee), .val (.long ff), .second, .val (.long bits), .second, .val (.int (31 : Int32)), .val (.int (29 : Int32)), .val (.int (896 : Int32)), .val (.int (255 : Int32)), .val (.int (1151 : Int32)), .val (.int (926 : Int32)), .val (.long (sS <<< ((31 : Int32).toInt64 &&& 63))), .second, .val (.long (bits &&& (9223372036854775807 : Int64))), .second, .unset] [(.int (2047 : Int32)), (.int ee)])) _
      refine XS.icmpNo X0.here hx rfl (hb hby dex1_111) rfl (XT.ii_ne_f h1) ?_
      show Steps p.tables e below (s₁.setTop (mkF m 114 #[.val (.int p1), .val (.long sS), .second, .val (.int ee), .val (.long ff), .second, .val (.long bits), .second, .val (.int (31 : Int32)), .val (.int (29 : Int32)), .val (.int (896 : Int32)), .val (.int (255 : Int32)), .val (.int (1151 : Int32)), .val (.int (926 : Int32)), .val (.long (sS <<< ((31 : Int32).toInt64 &&& 63))), .second, .val (.long (bits &&& (9223372036854775807 : Int64))), .second, .unset] [])) _
      refine XT.lload X0.here hx rfl (hb hby dex1_114) rfl ?_
      show Steps p.tables e below (s₁.setTop (mkF m 116 #[.val (.int p1), .val (.long sS), .second, .val (.int ee), .val (.long ff), .second, .val (.long bits), .second, .val (.int (31 : Int32)), .val (.int (29 : Int32)), .val (.int (896 : Int32)), .val (.int (255 : Int32)), .val (.int (1151 : Int32)), .val (.int (926 : Int32)), .val (.long (sS <<< ((31 : Int32).toInt64 &&& 63))), .second, .val (.long (bits &&& (9223372036854775807 : Int64))), .second, .unset] [(.long (sS <<< ((31 : Int32).toInt64 &&& 63)))])) _
      refine XS.iload X0.here hx rfl (hb hby dex1_116) rfl ?_
      show Steps p.tables e below (s₁.setTop (mkF m 118 #[.val (.int p1), .val (.long sS), .second, .val (.int ee), .val (.long ff), .second, .val (.long bits), .second, .val (.int (31 : Int32)), .val (.int (29 : Int32)), .val (.int (896 : Int32)), .val (.int (255 : Int32)), .val (.int (1151 : Int32)), .val (.int (926 : Int32)), .val (.long (sS <<< ((31 : Int32).toInt64 &&& 63))), .second, .val (.long (bits &&& (9223372036854775807 : Int64))), .second, .unset] [(.int (255 : Int32)), (.long (sS <<< ((31 : Int32).toInt64 &&& 63)))])) _
      refine XT.i2l X0.here hx rfl (hb hby dex1_118) rfl ?_
      show Steps p.tables e below (s₁.setTop (mkF m 119 #[.val (.int p1), .val (.long sS), .second, .val (.int ee), .val (.long ff), .second, .val (.long bits), .second, .val (.int (31 : Int32)), .val (.int (29 : Int32)), .val (.int (896 : Int32)), .val (.int (255 : Int32)), .val (.int (1151 : Int32)), .val (.int (926 : Int32)), .val (.long (sS <<< ((31 : Int32).toInt64 &&& 63))), .second, .val (.long (bits &&& (9223372036854775807 : Int64))), .second, .unset] [(.long ((255 : Int32).toInt64)), (.long (sS <<< ((31 : Int32).toInt64 &&& 63)))])) _
      refine XS.bipush X0.here hx rfl (hb hby dex1_119) ?_
      show Steps p.tables e below (s₁.setTop (mkF m 121 #[.val (.int p1), .val (.long sS), .second, .val (.int ee), .val (.long ff), .second, .val (.long bits), .second, .val (.int (31 : Int32)), .val (.int (29 : Int32)), .val (.int (896 : Int32)), .val (.int (255 : Int32)), .val (.int (1151 : Int32)), .val (.int (926 : Int32)), .val (.long (sS <<< ((31 : Int32).toInt64 &&& 63))), .second, .val (.long (bits &&& (9223372036854775807 : Int64))), .second, .unset] [(.int (52 : Int32)), (.long ((255 : Int32).toInt64)), (.long (sS <<< ((31 : Int32).toInt64 &&& 63)))])) _
      refine XT.lshl X0.here hx rfl (hb hby dex1_121) rfl ?_
      show Steps p.tables e below (s₁.setTop (mkF m 122 #[.val (.int p1), .val (.long sS), .second, .val (.int ee), .val (.long ff), .second, .val (.long bits), .second, .val (.int (31 : Int32)), .val (.int (29 : Int32)), .val (.int (896 : Int32)), .val (.int (255 : Int32)), .val (.int (1151 : Int32)), .val (.int (926 : Int32)), .val (.long (sS <<< ((31 : Int32).toInt64 &&& 63))), .second, .val (.long (bits &&& (9223372036854775807 : Int64))), .second, .unset] [(.long (((255 : Int32).toInt64) <<< ((52 : Int32).toInt64 &&& 63))), (.long (sS <<< ((31 : Int32).toInt64 &&& 63)))])) _
      refine XT.lload X0.here hx rfl (hb hby dex1_122) rfl ?_
      show Steps p.tables e below (s₁.setTop (mkF m 124 #[.val (.int p1), .val (.long sS), .second, .val (.int ee), .val (.long ff), .second, .val (.long bits), .second, .val (.int (31 : Int32)), .val (.int (29 : Int32)), .val (.int (896 : Int32)), .val (.int (255 : Int32)), .val (.int (1151 : Int32)), .val (.int (926 : Int32)), .val (.long (sS <<< ((31 : Int32).toInt64 &&& 63))), .second, .val (.long (bits &&& (9223372036854775807 : Int64))), .second, .unset] [(.long ff), (.long (((255 : Int32).toInt64) <<< ((52 : Int32).toInt64 &&& 63))), (.long (sS <<< ((31 : Int32).toInt64 &&& 63)))])) _
      refine XT.lor X0.here hx rfl (hb hby dex1_124) rfl ?_
      show Steps p.tables e below (s₁.setTop (mkF m 125 #[.val (.int p1), .val (.long sS), .second, .val (.int ee), .val (.long ff), .second, .val (.long bits), .second, .val (.int (31 : Int32)), .val (.int (29 : Int32)), .val (.int (896 : Int32)), .val (.int (255 : Int32)), .val (.int (1151 : Int32)), .val (.int (926 : Int32)), .val (.long (sS <<< ((31 : Int32).toInt64 &&& 63))), .second, .val (.long (bits &&& (9223372036854775807 : Int64))), .second, .unset] [(.long ((((255 : Int32).toInt64) <<< ((52 : Int32).toInt64 &&& 63)) ||| ff)), (.long (sS <<< ((31 : Int32).toInt64 &&& 63)))])) _
      refine XS.iload X0.here hx rfl (hb hby dex1_125) rfl ?_
      show Steps p.tables e below (s₁.setTop (mkF m 127 #[.val (.int p1), .val (.long sS), .second, .val (.int ee), .val (.long ff), .second, .val (.long bits), .second, .val (.int (31 : Int32)), .val (.int (29 : Int32)), .val (.int (896 : Int32)), .val (.int (255 : Int32)), .val (.int (1151 : Int32)), .val (.int (926 : Int32)), .val (.long (sS <<< ((31 : Int32).toInt64 &&& 63))), .second, .val (.long (bits &&& (9223372036854775807 : Int64))), .second, .unset] [(.int (29 : Int32)), (.long ((((255 : Int32).toInt64) <<< ((52 : Int32).toInt64 &&& 63)) ||| ff)), (.long (sS <<< ((31 : Int32).toInt64 &&& 63)))])) _
      refine XT.lushr X0.here hx rfl (hb hby dex1_127) rfl ?_
      show Steps p.tables e below (s₁.setTop (mkF m 128 #[.val (.int p1), .val (.long sS), .second, .val (.int ee), .val (.long ff), .second, .val (.long bits), .second, .val (.int (31 : Int32)), .val (.int (29 : Int32)), .val (.int (896 : Int32)), .val (.int (255 : Int32)), .val (.int (1151 : Int32)), .val (.int (926 : Int32)), .val (.long (sS <<< ((31 : Int32).toInt64 &&& 63))), .second, .val (.long (bits &&& (9223372036854775807 : Int64))), .second, .unset] [(.long (XT.ushrL ((((255 : Int32).toInt64) <<< ((52 : Int32).toInt64 &&& 63)) ||| ff) (29 : Int32))), (.long (sS <<< ((31 : Int32).toInt64 &&& 63)))])) _
      refine XT.lor X0.here hx rfl (hb hby dex1_128) rfl ?_
      show Steps p.tables e below (s₁.setTop (mkF m 129 #[.val (.int p1), .val (.long sS), .second, .val (.int ee), .val (.long ff), .second, .val (.long bits), .second, .val (.int (31 : Int32)), .val (.int (29 : Int32)), .val (.int (896 : Int32)), .val (.int (255 : Int32)), .val (.int (1151 : Int32)), .val (.int (926 : Int32)), .val (.long (sS <<< ((31 : Int32).toInt64 &&& 63))), .second, .val (.long (bits &&& (9223372036854775807 : Int64))), .second, .unset] [(.long ((sS <<< ((31 : Int32).toInt64 &&& 63)) ||| (XT.ushrL ((((255 : Int32).toInt64) <<< ((52 : Int32).toInt64 &&& 63)) ||| ff) (29 : Int32))))])) _
      exact k)
    obtain ⟨fs, hr, hrun, hended, hW, hsame⟩ := X0.leave (v := some (.long ((sS <<< ((31 : Int32).toInt64 &&& 63)) ||| (XT.ushrL ((((255 : Int32).toInt64) <<< ((52 : Int32).toInt64 &&& 63)) ||| ff) (29 : Int32))))) (fun h => by rw [Bd.returns] at h; cases h)
    refine ⟨_, _, pre3 _ ?_, hrun, hended, _, _, rfl, ?_, ⟨_, rfl⟩, hW, hsame.mono (by decide) (by decide)⟩
    · exact X0.lreturnOut hx Bd.returns (hb hby dex1_129) hr
    · show Q_ex1 Z p1 sS ee ff bits h0 n0 _ s₁.heap _
      unfold Q_ex1; rw [hf]
      rw [e0]
      exact ⟨rfl, N0, rfl⟩
  · skip
    have pre3 : ∀ t, Steps p.tables e below (s₁.setTop (mkF m 131 #[.val (.int p1), .val (.long sS), .second, .val (.int ee), .val (.long ff), .second, .val (.long bits), .second, .val (.int (31 : Int32)), .val (.int (29 : Int32)), .val (.int (896 : Int32)), .val (.int (255 : Int32)), .val (.int (1151 : Int32)), .val (.int (926 : Int32)), .val (.long (sS <<< ((31 : Int32).toInt64 &&& 63))), .second, .val (.long (bits &&& (9223372036854775807 : Int64))), .second, .unset] [(.int ee)])) t → Steps p.tables e below (s₁.setTop (entryFrame m #[(.int p1), (.long sS), (.int ee), (.long ff), (.long bits)] 19)) t := fun t k => pre2 t (by
      show Steps p.tables e below (s₁.setTop (mkF m 111 #[.val (.int p1), .val (.long sS), .second, .val (.int ee), .val (.long ff), .second, .val (.long bits), .second, .val (.int (31 : Int32)), .val (.int (29 : Int32)), .val (.int (896 : Int32)), .val (.int (255 : Int32)), .val (.int (1151 : Int32)), .val (.int (926 : Int32)), .val (.long (sS <<< ((31 : Int32).toInt64 &&& 63))), .second, .val (.long (bits &&& (9223372036854775807 : Int64))), .second, .unset] [(.int (2047 : Int32)), (.int ee)])) _
      refine XS.icmpYes X0.here hx rfl (pc0 := 111) (pc' := 130) rfl (hb hby dex1_111) rfl (XT.ii_ne_t h1) (by decide) (by decide) ?_
      show Steps p.tables e below (s₁.setTop (mkF m 130 #[.val (.int p1), .val (.long sS), .second, .val (.int ee), .val (.long ff), .second, .val (.long bits), .second, .val (.int (31 : Int32)), .val (.int (29 : Int32)), .val (.int (896 : Int32)), .val (.int (255 : Int32)), .val (.int (1151 : Int32)), .val (.int (926 : Int32)), .val (.long (sS <<< ((31 : Int32).toInt64 &&& 63))), .second, .val (.long (bits &&& (9223372036854775807 : Int64))), .second, .unset] [])) _
      refine XS.iloadN X0.here hx rfl (hb hby dex1_130) rfl ?_
      show Steps p.tables e below (s₁.setTop (mkF m 131 #[.val (.int p1), .val (.long sS), .second, .val (.int ee), .val (.long ff), .second, .val (.long bits), .second, .val (.int (31 : Int32)), .val (.int (29 : Int32)), .val (.int (896 : Int32)), .val (.int (255 : Int32)), .val (.int (1151 : Int32)), .val (.int (926 : Int32)), .val (.long (sS <<< ((31 : Int32).toInt64 &&& 63))), .second, .val (.long (bits &&& (9223372036854775807 : Int64))), .second, .unset] [(.int ee)])) _
      exact k)
    by_cases h2 : ee = 0
    · skip
      have hf : own_exp 29 896 255 1151 926 (sS <<< ((31 : Int32).toInt64 &&& 63)) ee ff (bits &&& (9223372036854775807 : Int64)) = (sS <<< ((31 : Int32).toInt64 &&& 63)) := by unfold own_exp; rw [if_neg h1, if_pos h2]
      have pre4 : ∀ t, Steps p.tables e below (s₁.setTop (mkF m 136 #[.val (.int p1), .val (.long sS), .second, .val (.int ee), .val (.long ff), .second, .val (.long bits), .second, .val (.int (31 : Int32)), .val (.int (29 : Int32)), .val (.int (896 : Int32)), .val (.int (255 : Int32)), .val (.int (1151 : Int32)), .val (.int (926 : Int32)), .val (.long (sS <<< ((31 : Int32).toInt64 &&& 63))), .second, .val (.long (bits &&& (9223372036854775807 : Int64))), .second, .unset] [(.long (sS <<< ((31 : Int32).toInt64 &&& 63)))])) t → Steps p.tables e below (s₁.setTop (entryFrame m #[(.int p1), (.long sS), (.int ee), (.long ff), (.long bits)] 19)) t := fun t k => pre3 t (by
        show Steps p.tables e below (s₁.setTop (mkF m 131 #[.val (.int p1), .val (.long sS), .second, .val (.int ee), .val (.long ff), .second, .val (.long bits), .second, .val (.int (31 : Int32)), .val (.int (29 : Int32)), .val (.int (896 : Int32)), .val (.int (255 : Int32)), .val (.int (1151 : Int32)), .val (.int (926 : Int32)), .val (.long (sS <<< ((31 : Int32).toInt64 &&& 63))), .second, .val (.long (bits &&& (9223372036854775807 : Int64))), .second, .unset] [(.int ee)])) _
        refine XS.ifNo X0.here hx rfl (hb hby dex1_131) rfl (XT.i0_ne_f h2) ?_
        show Steps p.tables e below (s₁.setTop (mkF m 134 #[.val (.int p1), .val (.long sS), .second, .val (.int ee), .val (.long ff), .second, .val (.long bits), .second, .val (.int (31 : Int32)), .val (.int (29 : Int32)), .val (.int (896 : Int32)), .val (.int (255 : Int32)), .val (.int (1151 : Int32)), .val (.int (926 : Int32)), .val (.long (sS <<< ((31 : Int32).toInt64 &&& 63))), .second, .val (.long (bits &&& (9223372036854775807 : Int64))), .second, .unset] [])) _
        refine XT.lload X0.here hx rfl (hb hby dex1_134) rfl ?_
        show Steps p.tables e below (s₁.setTop (mkF m 136 #[.val (.int p1), .val (.long sS), .second, .val (.int ee), .val (.long ff), .second, .val (.long bits), .second, .val (.int (31 : Int32)), .val (.int (29 : Int32)), .val (.int (896 : Int32)), .val (.int (255 : Int32)), .val (.int (1151 : Int32)), .val (.int (926 : Int32)), .val (.long (sS <<< ((31 : Int32).toInt64 &&& 63))), .second, .val (.long (bits &&& (9223372036854775807 : Int64))), .second, .unset] [(.long (sS <<< ((31 : Int32).toInt64 &&& 63)))])) _
        exact k)
      obtain ⟨fs, hr, hrun, hended, hW, hsame⟩ := X0.leave (v := some (.long (sS <<< ((31 : Int32).toInt64 &&& 63)))) (fun h => by rw [Bd.returns] at h; cases h)
      refine ⟨_, _, pre4 _ ?_, hrun, hended, _, _, rfl, ?_, ⟨_, rfl⟩, hW, hsame.mono (by decide) (by decide)⟩
      · exact X0.lreturnOut hx Bd.returns (hb hby dex1_136) hr
      · show Q_ex1 Z p1 sS ee ff bits h0 n0 _ s₁.heap _
        unfold Q_ex1; rw [hf]
        rw [e0]
        exact ⟨rfl, N0, rfl⟩
    · skip
      have pre4 : ∀ t, Steps p.tables e below (s₁.setTop (mkF m 140 #[.val (.int p1), .val (.long sS), .second, .val (.int ee), .val (.long ff), .second, .val (.long bits), .second, .val (.int (31 : Int32)), .val (.int (29 : Int32)), .val (.int (896 : Int32)), .val (.int (255 : Int32)), .val (.int (1151 : Int32)), .val (.int (926 : Int32)), .val (.long (sS <<< ((31 : Int32).toInt64 &&& 63))), .second, .val (.long (bits &&& (9223372036854775807 : Int64))), .second, .unset] [(.int (1151 : Int32)), (.int ee)])) t → Steps p.tables e below (s₁.setTop (entryFrame m #[(.int p1), (.long sS), (.int ee), (.long ff), (.long bits)] 19)) t := fun t k => pre3 t (by
        show Steps p.tables e below (s₁.setTop (mkF m 131 #[.val (.int p1), .val (.long sS), .second, .val (.int ee), .val (.long ff), .second, .val (.long bits), .second, .val (.int (31 : Int32)), .val (.int (29 : Int32)), .val (.int (896 : Int32)), .val (.int (255 : Int32)), .val (.int (1151 : Int32)), .val (.int (926 : Int32)), .val (.long (sS <<< ((31 : Int32).toInt64 &&& 63))), .second, .val (.long (bits &&& (9223372036854775807 : Int64))), .second, .unset] [(.int ee)])) _
        refine XS.ifYes X0.here hx rfl (pc0 := 131) (pc' := 137) rfl (hb hby dex1_131) rfl (XT.i0_ne_t h2) (by decide) (by decide) ?_
        show Steps p.tables e below (s₁.setTop (mkF m 137 #[.val (.int p1), .val (.long sS), .second, .val (.int ee), .val (.long ff), .second, .val (.long bits), .second, .val (.int (31 : Int32)), .val (.int (29 : Int32)), .val (.int (896 : Int32)), .val (.int (255 : Int32)), .val (.int (1151 : Int32)), .val (.int (926 : Int32)), .val (.long (sS <<< ((31 : Int32).toInt64 &&& 63))), .second, .val (.long (bits &&& (9223372036854775807 : Int64))), .second, .unset] [])) _
        refine XS.iloadN X0.here hx rfl (hb hby dex1_137) rfl ?_
        show Steps p.tables e below (s₁.setTop (mkF m 138 #[.val (.int p1), .val (.long sS), .second, .val (.int ee), .val (.long ff), .second, .val (.long bits), .second, .val (.int (31 : Int32)), .val (.int (29 : Int32)), .val (.int (896 : Int32)), .val (.int (255 : Int32)), .val (.int (1151 : Int32)), .val (.int (926 : Int32)), .val (.long (sS <<< ((31 : Int32).toInt64 &&& 63))), .second, .val (.long (bits &&& (9223372036854775807 : Int64))), .second, .unset] [(.int ee)])) _
        refine XS.iload X0.here hx rfl (hb hby dex1_138) rfl ?_
        show Steps p.tables e below (s₁.setTop (mkF m 140 #[.val (.int p1), .val (.long sS), .second, .val (.int ee), .val (.long ff), .second, .val (.long bits), .second, .val (.int (31 : Int32)), .val (.int (29 : Int32)), .val (.int (896 : Int32)), .val (.int (255 : Int32)), .val (.int (1151 : Int32)), .val (.int (926 : Int32)), .val (.long (sS <<< ((31 : Int32).toInt64 &&& 63))), .second, .val (.long (bits &&& (9223372036854775807 : Int64))), .second, .unset] [(.int (1151 : Int32)), (.int ee)])) _
        exact k)
      by_cases h3 : ee < 1151
      · skip
        have pre5 : ∀ t, Steps p.tables e below (s₁.setTop (mkF m 159 #[.val (.int p1), .val (.long sS), .second, .val (.int ee), .val (.long ff), .second, .val (.long bits), .second, .val (.int (31 : Int32)), .val (.int (29 : Int32)), .val (.int (896 : Int32)), .val (.int (255 : Int32)), .val (.int (1151 : Int32)), .val (.int (926 : Int32)), .val (.long (sS <<< ((31 : Int32).toInt64 &&& 63))), .second, .val (.long (bits &&& (9223372036854775807 : Int64))), .second, .unset] [(.int (896 : Int32)), (.int ee)])) t → Steps p.tables e below (s₁.setTop (entryFrame m #[(.int p1), (.long sS), (.int ee), (.long ff), (.long bits)] 19)) t := fun t k => pre4 t (by
          show Steps p.tables e below (s₁.setTop (mkF m 140 #[.val (.int p1), .val (.long sS), .second, .val (.int ee), .val (.long ff), .second, .val (.long bits), .second, .val (.int (31 : Int32)), .val (.int (29 : Int32)), .val (.int (896 : Int32)), .val (.int (255 : Int32)), .val (.int (1151 : Int32)), .val (.int (926 : Int32)), .val (.long (sS <<< ((31 : Int32).toInt64 &&& 63))), .second, .val (.long (bits &&& (9223372036854775807 : Int64))), .second, .unset] [(.int (1151 : Int32)), (.int ee)])) _
          refine XS.icmpYes X0.here hx rfl (pc0 := 140) (pc' := 156) rfl (hb hby dex1_140) rfl (XT.ii_lt_t h3) (by decide) (by decide) ?_
          show Steps p.tables e below (s₁.setTop (mkF m 156 #[.val (.int p1), .val (.long sS), .second, .val (.int ee), .val (.long ff), .second, .val (.long bits), .second, .val (.int (31 : Int32)), .val (.int (29 : Int32)), .val (.int (896 : Int32)), .val (.int (255 : Int32)), .val (.int (1151 : Int32)), .val (.int (926 : Int32)), .val (.long (sS <<< ((31 : Int32).toInt64 &&& 63))), .second, .val (.long (bits &&& (9223372036854775807 : Int64))), .second, .unset] [])) _
          refine XS.iloadN X0.here hx rfl (hb hby dex1_156) rfl ?_
          show Steps p.tables e below (s₁.setTop (mkF m 157 #[.val (.int p1), .val (.long sS), .second, .val (.int ee), .val (.long ff), .second, .val (.long bits), .second, .val (.int (31 : Int32)), .val (.int (29 : Int32)), .val (.int (896 : Int32)), .val (.int (255 : Int32)), .val (.int (1151 : Int32)), .val (.int (926 : Int32)), .val (.long (sS <<< ((31 : Int32).toInt64 &&& 63))), .second, .val (.long (bits &&& (9223372036854775807 : Int64))), .second, .unset] [(.int ee)])) _
          refine XS.iload X0.here hx rfl (hb hby dex1_157) rfl ?_
          show Steps p.tables e below (s₁.setTop (mkF m 159 #[.val (.int p1), .val (.long sS), .second, .val (.int ee), .val (.long ff), .second, .val (.long bits), .second, .val (.int (31 : Int32)), .val (.int (29 : Int32)), .val (.int (896 : Int32)), .val (.int (255 : Int32)), .val (.int (1151 : Int32)), .val (.int (926 : Int32)), .val (.long (sS <<< ((31 : Int32).toInt64 &&& 63))), .second, .val (.long (bits &&& (9223372036854775807 : Int64))), .second, .unset] [(.int (896 : Int32)), (.int ee)])) _
          exact k)
        by_cases h4 : (896 : Int32) < ee
        · skip
          have hf : own_exp 29 896 255 1151 926 (sS <<< ((31 : Int32).toInt64 &&& 63)) ee ff (bits &&& (9223372036854775807 : Int64)) = ((sS <<< ((31 : Int32).toInt64 &&& 63)) ||| (XT.ushrL ((bits &&& (9223372036854775807 : Int64)) - (((896 : Int32).toInt64) <<< ((52 : Int32).toInt64 &&& 63))) (29 : Int32))) := by unfold own_exp; rw [if_neg h1, if_neg h2, if_pos h3, if_pos h4]
          have pre6 : ∀ t, Steps p.tables e below (s₁.setTop (mkF m 177 #[.val (.int p1), .val (.long sS), .second, .val (.int ee), .val (.long ff), .second, .val (.long bits), .second, .val (.int (31 : Int32)), .val (.int (29 : Int32)), .val (.int (896 : Int32)), .val (.int (255 : Int32)), .val (.int (1151 : Int32)), .val (.int (926 : Int32)), .val (.long (sS <<< ((31 : Int32).toInt64 &&& 63))), .second, .val (.long (bits &&& (9223372036854775807 : Int64))), .second, .unset] [(.long ((sS <<< ((31 : Int32).toInt64 &&& 63)) ||| (XT.ushrL ((bits &&& (9223372036854775807 : Int64)) - (((896 : Int32).toInt64) <<< ((52 : Int32).toInt64 &&& 63))) (29 : Int32))))])) t → Steps p.tables e below (s₁.setTop (entryFrame m #[(.int p1), (.long sS), (.int ee), (.long ff), (.long bits)] 19)) t := fun t k => pre5 t (by
            show Steps p.tables e below (s₁.setTop (mkF m 159 #[.val (.int p1), .val (.long sS), .second, .val (.int ee), .val (.long ff), .second, .val (.long bits), .second, .val (.int (31 : Int32)), .val (.int (29 : Int32)), .val (.int (896 : Int32)), .val (.int (255 : Int32)), .val (.int (1151 : Int32)), .val (.int (926 : Int32)), .val (.long (sS <<< ((31 : Int32).toInt64 &&& 63))), .second, .val (.long (bits &&& (9223372036854775807 : Int64))), .second, .unset] [(.int (896 : Int32)), (.int ee)])) _
            refine XS.icmpNo X0.here hx rfl (hb hby dex1_159) rfl (XT.ii_le_f h4) ?_
            show Steps p.tables e below (s₁.setTop (mkF m 162 #[.val (.int p1), .val (.long sS), .second, .val (.int ee), .val (.long ff), .second, .val (.long bits), .second, .val (.int (31 : Int32)), .val (.int (29 : Int32)), .val (.int (896 : Int32)), .val (.int (255 : Int32)), .val (.int (1151 : Int32)), .val (.int (926 : Int32)), .val (.long (sS <<< ((31 : Int32).toInt64 &&& 63))), .second, .val (.long (bits &&& (9223372036854775807 : Int64))), .second, .unset] [])) _
            refine XT.lload X0.here hx rfl (hb hby dex1_162) rfl ?_
            show Steps p.tables e below (s₁.setTop (mkF m 164 #[.val (.int p1), .val (.long sS), .second, .val (.int ee), .val (.long ff), .second, .val (.long bits), .second, .val (.int (31 : Int32)), .val (.int (29 : Int32)), .val (.int (896 : Int32)), .val (.int (255 : Int32)), .val (.int (1151 : Int32)), .val (.int (926 : Int32)), .val (.long (sS <<< ((31 : Int32).toInt64 &&& 63))), .second, .val (.long (bits &&& (9223372036854775807 : Int64))), .second, .unset] [(.long (sS <<< ((31 : Int32).toInt64 &&& 63)))])) _
            refine XT.lload X0.here hx rfl (hb hby dex1_164) rfl ?_
            show Steps p.tables e below (s₁.setTop (mkF m 166 #[.val (.int p1), .val (.long sS), .second, .val (.int ee), .val (.long ff), .second, .val (.long bits), .second, .val (.int (31 : Int32)), .val (.int (29 : Int32)), .val (.int (896 : Int32)), .val (.int (255 : Int32)), .val (.int (1151 : Int32)), .val (.int (926 : Int32)), .val (.long (sS <<< ((31 : Int32).toInt64 &&& 63))), .second, .val (.long (bits &&& (9223372036854775807 : Int64))), .second, .unset] [(.long (bits &&& (9223372036854775807 : Int64))), (.long (sS <<< ((31 : Int32).toInt64 &&& 63)))])) _
            refine XS.iload X0.here hx rfl (hb hby dex1_166) rfl ?_
            show Steps p.tables e below (s₁.setTop (mkF m 168 #[.val (.int p1), .val (.long sS), .second, .val (.int ee), .val (.long ff), .second, .val (.long bits), .second, .val (.int (31 : Int32)), .val (.int (29 : Int32)), .val (.int (896 : Int32)), .val (.int (255 : Int32)), .val (.int (1151 : Int32)), .val (.int (926 : Int32)), .val (.long (sS <<< ((31 : Int32).toInt64 &&& 63))), .second, .val (.long (bits &&& (9223372036854775807 : Int64))), .second, .unset] [(.int (896 : Int32)), (.long (bits &&& (9223372036854775807 : Int64))), (.long (sS <<< ((31 : Int32).toInt64 &&& 63)))])) _
            refine XT.i2l X0.here hx rfl (hb hby dex1_168) rfl ?_
            show Steps p.tables e below (s₁.setTop (mkF m 169 #[.val (.int p1), .val (.long sS), .second, .val (.int ee), .val (.long ff), .second, .val (.long bits), .second, .val (.int (31 : Int32)), .val (.int (29 : Int32)), .val (.int (896 : Int32)), .val (.int (255 : Int32)), .val (.int (1151 : Int32)), .val (.int (926 : Int32)), .val (.long (sS <<< ((31 : Int32).toInt64 &&& 63))), .second, .val (.long (bits &&& (9223372036854775807 : Int64))), .second, .unset] [(.long ((896 : Int32).toInt64)), (.long (bits &&& (9223372036854775807 : Int64))), (.long (sS <<< ((31 : Int32).toInt64 &&& 63)))])) _
            refine XS.bipush X0.here hx rfl (hb hby dex1_169) ?_
            show Steps p.tables e below (s₁.setTop (mkF m 171 #[.val (.int p1), .val (.long sS), .second, .val (.int ee), .val (.long ff), .second, .val (.long bits), .second, .val (.int (31 : Int32)), .val (.int (29 : Int32)), .val (.int (896 : Int32)), .val (.int (255 : Int32)), .val (.int (1151 : Int32)), .val (.int (926 : Int32)), .val (.long (sS <<< ((31 : Int32).toInt64 &&& 63))), .second, .val (.long (bits &&& (9223372036854775807 : Int64))), .second, .unset] [(.int (52 : Int32)), (.long ((896 : Int32).toInt64)), (.long (bits &&& (9223372036854775807 : Int64))), (.long (sS <<< ((31 : Int32).toInt64 &&& 63)))])) _
            refine XT.lshl X0.here hx rfl (hb hby dex1_171) rfl ?_
            show Steps p.tables e below (s₁.setTop (mkF m 172 #[.val (.int p1), .val (.long sS), .second, .val (.int ee), .val (.long ff), .second, .val (.long bits), .second, .val (.int (31 : Int32)), .val (.int (29 : Int32)), .val (.int (896 : Int32)), .val (.int (255 : Int32)), .val (.int (1151 : Int32)), .val (.int (926 : Int32)), .val (.long (sS <<< ((31 : Int32).toInt64 &&& 63))), .second, .val (.long (bits &&& (9223372036854775807 : Int64))), .second, .unset] [(.long (((896 : Int32).toInt64) <<< ((52 : Int32).toInt64 &&& 63))), (.long (bits &&& (9223372036854775807 : Int64))), (.long (sS <<< ((31 : Int32).toInt64 &&& 63)))])) _
            refine XT.lsub X0.here hx rfl (hb hby dex1_172) rfl ?_
            show Steps p.tables e below (s₁.setTop (mkF m 173 #[.val (.int p1), .val (.long sS), .second, .val (.int ee), .val (.long ff), .second, .val (.long bits), .second, .val (.int (31 : Int32)), .val (.int (29 : Int32)), .val (.int (896 : Int32)), .val (.int (255 : Int32)), .val (.int (1151 : Int32)), .val (.int (926 : Int32)), .val (.long (sS <<< ((31 : Int32).toInt64 &&& 63))), .second, .val (.long (bits &&& (9223372036854775807 : Int64))), .second, .unset] [(.long ((bits &&& (9223372036854775807 : Int64)) - (((896 : Int32).toInt64) <<< ((52 : Int32).toInt64 &&& 63)))), (.long (sS <<< ((31 : Int32).toInt64 &&& 63)))])) _
            refine XS.iload X0.here hx rfl (hb hby dex1_173) rfl ?_
            show Steps p.tables e below (s₁.setTop (mkF m 175 #[.val (.int p1), .val (.long sS), .second, .val (.int ee), .val (.long ff), .second, .val (.long bits), .second, .val (.int (31 : Int32)), .val (.int (29 : Int32)), .val (.int (896 : Int32)), .val (.int (255 : Int32)), .val (.int (1151 : Int32)), .val (.int (926 : Int32)), .val (.long (sS <<< ((31 : Int32).toInt64 &&& 63))), .second, .val (.long (bits &&& (9223372036854775807 : Int64))), .second, .unset] [(.int (29 : Int32)), (.long ((bits &&& (9223372036854775807 : Int64)) - (((896 : Int32).toInt64) <<< ((52 : Int32).toInt64 &&& 63)))), (.long (sS <<< ((31 : Int32).toInt64 &&& 63)))])) _
            refine XT.lushr X0.here hx rfl (hb hby dex1_175) rfl ?_
            show Steps p.tables e below (s₁.setTop (mkF m 176 #[.val (.int p1), .val (.long sS), .second, .val (.int ee), .val (.long ff), .second, .val (.long bits), .second, .val (.int (31 : Int32)), .val (.int (29 : Int32)), .val (.int (896 : Int32)), .val (.int (255 : Int32)), .val (.int (1151 : Int32)), .val (.int (926 : Int32)), .val (.long (sS <<< ((31 : Int32).toInt64 &&& 63))), .second, .val (.long (bits &&& (9223372036854775807 : Int64))), .second, .unset] [(.long (XT.ushrL ((bits &&& (9223372036854775807 : Int64)) - (((896 : Int32).toInt64) <<< ((52 : Int32).toInt64 &&& 63))) (29 : Int32))), (.long (sS <<< ((31 : Int32).toInt64 &&& 63)))])) _
            refine XT.lor X0.here hx rfl (hb hby dex1_176) rfl ?_
            show Steps p.tables e below (s₁.setTop (mkF m 177 #[.val (.int p1), .val (.long sS), .second, .val (.int ee), .val (.long ff), .second, .val (.long bits), .second, .val (.int (31 : Int32)), .val (.int (29 : Int32)), .val (.int (896 : Int32)), .val (.int (255 : Int32)), .val (.int (1151 : Int32)), .val (.int (926 : Int32)), .val (.long (sS <<< ((31 : Int32).toInt64 &&& 63))), .second, .val (.long (bits &&& (9223372036854775807 : Int64))), .second, .unset] [(.long ((sS <<< ((31 : Int32).toInt64 &&& 63)) ||| (XT.ushrL ((bits &&& (9223372036854775807 : Int64)) - (((896 : Int32).toInt64) <<< ((52 : Int32).toInt64 &&& 63))) (29 : Int32))))])) _
            exact k)
          obtain ⟨fs, hr, hrun, hended, hW, hsame⟩ := X0.leave (v := some (.long ((sS <<< ((31 : Int32).toInt64 &&& 63)) ||| (XT.ushrL ((bits &&& (9223372036854775807 : Int64)) - (((896 : Int32).toInt64) <<< ((52 : Int32).toInt64 &&& 63))) (29 : Int32))))) (fun h => by rw [Bd.returns] at h; cases h)
          refine ⟨_, _, pre6 _ ?_, hrun, hended, _, _, rfl, ?_, ⟨_, rfl⟩, hW, hsame.mono (by decide) (by decide)⟩
          · exact X0.lreturnOut hx Bd.returns (hb hby dex1_177) hr
          · show Q_ex1 Z p1 sS ee ff bits h0 n0 _ s₁.heap _
            unfold Q_ex1; rw [hf]
            rw [e0]
            exact ⟨rfl, N0, rfl⟩
        · skip
          have pre6 : ∀ t, Steps p.tables e below (s₁.setTop (mkF m 188 #[.val (.int p1), .val (.long sS), .second, .val (.int ee), .val (.long ff), .second, .val (.long bits), .second, .val (.int (31 : Int32)), .val (.int (29 : Int32)), .val (.int (896 : Int32)), .val (.int (255 : Int32)), .val (.int (1151 : Int32)), .val (.int (926 : Int32)), .val (.long (sS <<< ((31 : Int32).toInt64 &&& 63))), .second, .val (.long (bits &&& (9223372036854775807 : Int64))), .second, .val (.int ((926 : Int32) - ee))] [(.int (64 : Int32)), (.int ((926 : Int32) - ee))])) t → Steps p.tables e below (s₁.setTop (entryFrame m #[(.int p1), (.long sS), (.int ee), (.long ff), (.long bits)] 19)) t := fun t k => pre5 t (by
            show Steps p.tables e below (s₁.setTop (mkF m 159 #[.val (.int p1), .val (.long sS), .second, .val (.int ee), .val (.long ff), .second, .val (.long bits), .second, .val (.int (31 : Int32)), .val (.int (29 : Int32)), .val (.int (896 : Int32)), .val (.int (255 : Int32)), .val (.int (1151 : Int32)), .val (.int (926 : Int32)), .val (.long (sS <<< ((31 : Int32).toInt64 &&& 63))), .second, .val (.long (bits &&& (9223372036854775807 : Int64))), .second, .unset] [(.int (896 : Int32)), (.int ee)])) _
            refine XS.icmpYes X0.here hx rfl (pc0 := 159) (pc' := 178) rfl (hb hby dex1_159) rfl (XT.ii_le_t h4) (by decide) (by decide) ?_
            show Steps p.tables e below (s₁.setTop (mkF m 178 #[.val (.int p1), .val (.long sS), .second, .val (.int ee), .val (.long ff), .second, .val (.long bits), .second, .val (.int (31 : Int32)), .val (.int (29 : Int32)), .val (.int (896 : Int32)), .val (.int (255 : Int32)), .val (.int (1151 : Int32)), .val (.int (926 : Int32)), .val (.long (sS <<< ((31 : Int32).toInt64 &&& 63))), .second, .val (.long (bits &&& (9223372036854775807 : Int64))), .second, .unset] [])) _
            refine XS.iload X0.here hx rfl (hb hby dex1_178) rfl ?_
            show Steps p.tables e below (s₁.setTop (mkF m 180 #[.val (.int p1), .val (.long sS), .second, .val (.int ee), .val (.long ff), .second, .val (.long bits), .second, .val (.int (31 : Int32)), .val (.int (29 : Int32)), .val (.int (896 : Int32)), .val (.int (255 : Int32)), .val (.int (1151 : Int32)), .val (.int (926 : Int32)), .val (.long (sS <<< ((31 : Int32).toInt64 &&& 63))), .second, .val (.long (bits &&& (9223372036854775807 : Int64))), .second, .unset] [(.int (926 : Int32))])) _
            refine XS.iloadN X0.here hx rfl (hb hby dex1_180) rfl ?_
            show Steps p.tables e below (s₁.setTop (mkF m 181 #[.val (.int p1), .val (.long sS), .second, .val (.int ee), .val (.long ff), .second, .val (.long bits), .second, .val (.int (31 : Int32)), .val (.int (29 : Int32)), .val (.int (896 : Int32)), .val (.int (255 : Int32)), .val (.int (1151 : Int32)), .val (.int (926 : Int32)), .val (.long (sS <<< ((31 : Int32).toInt64 &&& 63))), .second, .val (.long (bits &&& (9223372036854775807 : Int64))), .second, .unset] [(.int ee), (.int (926 : Int32))])) _
            refine XS.isub X0.here hx rfl (hb hby dex1_181) rfl ?_
            show Steps p.tables e below (s₁.setTop (mkF m 182 #[.val (.int p1), .val (.long sS), .second, .val (.int ee), .val (.long ff), .second, .val (.long bits), .second, .val (.int (31 : Int32)), .val (.int (29 : Int32)), .val (.int (896 : Int32)), .val (.int (255 : Int32)), .val (.int (1151 : Int32)), .val (.int (926 : Int32)), .val (.long (sS <<< ((31 : Int32).toInt64 &&& 63))), .second, .val (.long (bits &&& (9223372036854775807 : Int64))), .second, .unset] [(.int ((926 : Int32) - ee))])) _
            refine XS.istore X0.here hx rfl (hb hby dex1_182) rfl (l' := #[.val (.int p1), .val (.long sS), .second, .val (.int ee), .val (.long ff), .second, .val (.long bits), .second, .val (.int (31 : Int32)), .val (.int (29 : Int32)), .val (.int (896 : Int32)), .val (.int (255 : Int32)), .val (.int (1151 : Int32)), .val (.int (926 : Int32)), .val (.long (sS <<< ((31 : Int32).toInt64 &&& 63))), .second, .val (.long (bits &&& (9223372036854775807 : Int64))), .second, .val (.int ((926 : Int32) - ee))]) rfl ?_
            show Steps p.tables e below (s₁.setTop (mkF m 184 #[.val (.int p1), .val (.long sS), .second, .val (.int ee), .val (.long ff), .second, .val (.long bits), .second, .val (.int (31 : Int32)), .val (.int (29 : Int32)), .val (.int (896 : Int32)), .val (.int (255 : Int32)), .val (.int (1151 : Int32)), .val (.int (926 : Int32)), .val (.long (sS <<< ((31 : Int32).toInt64 &&& 63))), .second, .val (.long (bits &&& (9223372036854775807 : Int64))), .second, .val (.int ((926 : Int32) - ee))] [])) _
            refine XS.iload X0.here hx rfl (hb hby dex1_184) rfl ?_
            show Steps p.tables e below (s₁.setTop (mkF m 186 #[.val (.int p1), .val (.long sS), .second, .val (.int ee), .val (.long ff), .second, .val (.long bits), .second, .val (.int (31 : Int32)), .val (.int (29 : Int32)), .val (.int (896 : Int32)), .val (.int (255 : Int32)), .val (.int (1151 : Int32)), .val (.int (926 : Int32)), .val (.long (sS <<< ((31 : Int32).toInt64 &&& 63))), .second, .val (.long (bits &&& (9223372036854775807 : Int64))), .second, .val (.int ((926 : Int32) - ee))] [(.int ((926 : Int32) - ee))])) _
            refine XS.bipush X0.here hx rfl (hb hby dex1_186) ?_
            show Steps p.tables e below (s₁.setTop (mkF m 188 #[.val (.int p1), .val (.long sS), .second, .val (.int ee), .val (.long ff), .second, .val (.long bits), .second, .val (.int (31 : Int32)), .val (.int (29 : Int32)), .val (.int (896 : Int32)), .val (.int (255 : Int32)), .val (.int (1151 : Int32)), .val (.int (926 : Int32)), .val (.long (sS <<< ((31 : Int32).toInt64 &&& 63))), .second, .val (.long (bits &&& (9223372036854775807 : Int64))), .second, .val (.int ((926 : Int32) - ee))] [(.int (64 : Int32)), (.int ((926 : Int32) - ee))])) _
            exact k)
          by_cases h5 : 926 - ee < 64
          · skip
            have hf : own_exp 29 896 255 1151 926 (sS <<< ((31 : Int32).toInt64 &&& 63)) ee ff (bits &&& (9223372036854775807 : Int64)) = ((sS <<< ((31 : Int32).toInt64 &&& 63)) ||| (XT.ushrL ((4503599627370496 : Int64) ||| ff) ((926 : Int32) - ee))) := by unfold own_exp; rw [if_neg h1, if_neg h2, if_pos h3, if_neg h4, if_pos h5]
            have pre7 : ∀ t, Steps p.tables e below (s₁.setTop (mkF m 206 #[.val (.int p1), .val (.long sS), .second, .val (.int ee), .val (.long ff), .second, .val (.long bits), .second, .val (.int (31 : Int32)), .val (.int (29 : Int32)), .val (.int (896 : Int32)), .val (.int (255 : Int32)), .val (.int (1151 : Int32)), .val (.int (926 : Int32)), .val (.long (sS <<< ((31 : Int32).toInt64 &&& 63))), .second, .val (.long (bits &&& (9223372036854775807 : Int64))), .second, .val (.int ((926 : Int32) - ee))] [(.long ((sS <<< ((31 : Int32).toInt64 &&& 63)) ||| (XT.ushrL ((4503599627370496 : Int64) ||| ff) ((926 : Int32) - ee))))])) t → Steps p.tables e below (s₁.setTop (entryFrame m #[(.int p1), (.long sS), (.int ee), (.long ff), (.long bits)] 19)) t := fun t k => pre6 t (by
              show Steps p.tables e below (s₁.setTop (mkF m 188 #[.val (.int p1), .val (.long sS), .second, .val (.int ee), .val (.long ff), .second, .val (.long bits), .second, .val (.int (31 : Int32)), .val (.int (29 : Int32)), .val (.int (896 : Int32)), .val (.int (255 : Int32)), .val (.int (1151 : Int32)), .val (.int (926 : Int32)), .val (.long (sS <<< ((31 : Int32).toInt64 &&& 63))), .second, .val (.long (bits &&& (9223372036854775807 : Int64))), .second, .val (.int ((926 : Int32) - ee))] [(.int (64 : Int32)), (.int ((926 : Int32) - ee))])) _
              refine XS.icmpYes X0.here hx rfl (pc0 := 188) (pc' := 194) rfl (hb hby dex1_188) rfl (XT.ii_lt_t h5) (by decide) (by decide) ?_
              show Steps p.tables e below (s₁.setTop (mkF m 194 #[.val (.int p1), .val (.long sS), .second, .val (.int ee), .val (.long ff), .second, .val (.long bits), .second, .val (.int (31 : Int32)), .val (.int (29 : Int32)), .val (.int (896 : Int32)), .val (.int (255 : Int32)), .val (.int (1151 : Int32)), .val (.int (926 : Int32)), .val (.long (sS <<< ((31 : Int32).toInt64 &&& 63))), .second, .val (.long (bits &&& (9223372036854775807 : Int64))), .second, .val (.int ((926 : Int32) - ee))] [])) _
              refine XT.lload X0.here hx rfl (hb hby dex1_194) rfl ?_
              show Steps p.tables e below (s₁.setTop (mkF m 196 #[.val (.int p1), .val (.long sS), .second, .val (.int ee), .val (.long ff), .second, .val (.long bits), .second, .val (.int (31 : Int32)), .val (.int (29 : Int32)), .val (.int (896 : Int32)), .val (.int (255 : Int32)), .val (.int (1151 : Int32)), .val (.int (926 : Int32)), .val (.long (sS <<< ((31 : Int32).toInt64 &&& 63))), .second, .val (.long (bits &&& (9223372036854775807 : Int64))), .second, .val (.int ((926 : Int32) - ee))] [(.long (sS <<< ((31 : Int32).toInt64 &&& 63)))])) _
              refine X0.ldc2J hx hown (mvT hZ (hw _ (List.mem_of_getElem? (i := 27) rfl))) rfl (hb hby dex1_196) ?_
              show Steps p.tables e below (s₁.setTop (mkF m 199 #[.val (.int p1), .val (.long sS), .second, .val (.int ee), .val (.long ff), .second, .val (.long bits), .second, .val (.int (31 : Int32)), .val (.int (29 : Int32)), .val (.int (896 : Int32)), .val (.int (255 : Int32)), .val (.int (1151 : Int32)), .val (.int (926 : Int32)), .val (.long (sS <<< ((31 : Int32).toInt64 &&& 63))), .second, .val (.long (bits &&& (9223372036854775807 : Int64))), .second, .val (.int ((926 : Int32) - ee))] [(.long (4503599627370496 : Int64)), (.long (sS <<< ((31 : Int32).toInt64 &&& 63)))])) _
              refine XT.lload X0.here hx rfl (hb hby dex1_199) rfl ?_
              show Steps p.tables e below (s₁.setTop (mkF m 201 #[.val (.int p1), .val (.long sS), .second, .val (.int ee), .val (.long ff), .second, .val (.long bits), .second, .val (.int (31 : Int32)), .val (.int (29 : Int32)), .val (.int (896 : Int32)), .val (.int (255 : Int32)), .val (.int (1151 : Int32)), .val (.int (926 : Int32)), .val (.long (sS <<< ((31 : Int32).toInt64 &&& 63))), .second, .val (.long (bits &&& (9223372036854775807 : Int64))), .second, .val (.int ((926 : Int32) - ee))] [(.long ff), (.long (4503599627370496 : Int64)), (.long (sS <<< ((31 : Int32).toInt64 &&& 63)))])) _
              refine XT.lor X0.here hx rfl (hb hby dex1_201) rfl ?_
              show Steps p.tables e below (s₁.setTop (mkF m 202 #[.val (.int p1), .val (.long sS), .second, .val (.int ee), .val (.long ff), .second, .val (.long bits), .second, .val (.int (31 : Int32)), .val (.int (29 : Int32)), .val (.int (896 : Int32)), .val (.int (255 : Int32)), .val (.int (1151 : Int32)), .val (.int (926 : Int32)), .val (.long (sS <<< ((31 : Int32).toInt64 &&& 63))), .second, .val (.long (bits &&& (9223372036854775807 : Int64))), .second, .val (.int ((926 : Int32) - ee))] [(.long ((4503599627370496 : Int64) ||| ff)), (.long (sS <<< ((31 : Int32).toInt64 &&& 63)))])) _
              refine XS.iload X0.here hx rfl (hb hby dex1_202) rfl ?_
              show Steps p.tables e below (s₁.setTop (mkF m 204 #[.val (.int p1), .val (.long sS), .second, .val (.int ee), .val (.long ff), .second, .val (.long bits), .second, .val (.int (31 : Int32)), .val (.int (29 : Int32)), .val (.int (896 : Int32)), .val (.int (255 : Int32)), .val (.int (1151 : Int32)), .val (.int (926 : Int32)), .val (.long (sS <<< ((31 : Int32).toInt64 &&& 63))), .second, .val (.long (bits &&& (9223372036854775807 : Int64))), .second, .val (.int ((926 : Int32) - ee))] [(.int ((926 : Int32) - ee)), (.long ((4503599627370496 : Int64) ||| ff)), (.long (sS <<< ((31 : Int32).toInt64 &&& 63)))])) _
              refine XT.lushr X0.here hx rfl (hb hby dex1_204) rfl ?_
              show Steps p.tables e below (s₁.setTop (mkF m 205 #[.val (.int p1), .val (.long sS), .second, .val (.int ee), .val (.long ff), .second, .val (.long bits), .second, .val (.int (31 : Int32)), .val (.int (29 : Int32)), .val (.int (896 : Int32)), .val (.int (255 : Int32)), .val (.int (1151 : Int32)), .val (.int (926 : Int32)), .val (.long (sS <<< ((31 : Int32).toInt64 &&& 63))), .second, .val (.long (bits &&& (9223372036854775807 : Int64))), .second, .val (.int ((926 : Int32) - ee))] [(.long (XT.ushrL ((4503599627370496 : Int64) ||| ff) ((926 : Int32) - ee))), (.long (sS <<< ((31 : Int32).toInt64 &&& 63)))])) _
              refine XT.lor X0.here hx rfl (hb hby dex1_205) rfl ?_
              show Steps p.tables e below (s₁.setTop (mkF m 206 #[.val (.int p1), .val (.long sS), .second, .val (.int ee), .val (.long ff), .second, .val (.long bits), .second, .val (.int (31 : Int32)), .val (.int (29 : Int32)), .val (.int (896 : Int32)), .val (.int (255 : Int32)), .val (.int (1151 : Int32)), .val (.int (926 : Int32)), .val (.long (sS <<< ((31 : Int32).toInt64 &&& 63))), .second, .val (.long (bits &&& (9223372036854775807 : Int64))), .second, .val (.int ((926 : Int32) - ee))] [(.long ((sS <<< ((31 : Int32).toInt64 &&& 63)) ||| (XT.ushrL ((4503599627370496 : Int64) ||| ff) ((926 : Int32) - ee))))])) _
              exact k)
            obtain ⟨fs, hr, hrun, hended, hW, hsame⟩ := X0.leave (v := some (.long ((sS <<< ((31 : Int32).toInt64 &&& 63)) ||| (XT.ushrL ((4503599627370496 : Int64) ||| ff) ((926 : Int32) - ee))))) (fun h => by rw [Bd.returns] at h; cases h)
            refine ⟨_, _, pre7 _ ?_, hrun, hended, _, _, rfl, ?_, ⟨_, rfl⟩, hW, hsame.mono (by decide) (by decide)⟩
            · exact X0.lreturnOut hx Bd.returns (hb hby dex1_206) hr
            · show Q_ex1 Z p1 sS ee ff bits h0 n0 _ s₁.heap _
              unfold Q_ex1; rw [hf]
              rw [e0]
              exact ⟨rfl, N0, rfl⟩
          · skip
            have hf : own_exp 29 896 255 1151 926 (sS <<< ((31 : Int32).toInt64 &&& 63)) ee ff (bits &&& (9223372036854775807 : Int64)) = (sS <<< ((31 : Int32).toInt64 &&& 63)) := by unfold own_exp; rw [if_neg h1, if_neg h2, if_pos h3, if_neg h4, if_neg h5]
            have pre7 : ∀ t, Steps p.tables e below (s₁.setTop (mkF m 193 #[.val (.int p1), .val (.long sS), .second, .val (.int ee), .val (.long ff), .second, .val (.long bits), .second, .val (.int (31 : Int32)), .val (.int (29 : Int32)), .val (.int (896 : Int32)), .val (.int (255 : Int32)), .val (.int (1151 : Int32)), .val (.int (926 : Int32)), .val (.long (sS <<< ((31 : Int32).toInt64 &&& 63))), .second, .val (.long (bits &&& (9223372036854775807 : Int64))), .second, .val (.int ((926 : Int32) - ee))] [(.long (sS <<< ((31 : Int32).toInt64 &&& 63)))])) t → Steps p.tables e below (s₁.setTop (entryFrame m #[(.int p1), (.long sS), (.int ee), (.long ff), (.long bits)] 19)) t := fun t k => pre6 t (by
              show Steps p.tables e below (s₁.setTop (mkF m 188 #[.val (.int p1), .val (.long sS), .second, .val (.int ee), .val (.long ff), .second, .val (.long bits), .second, .val (.int (31 : Int32)), .val (.int (29 : Int32)), .val (.int (896 : Int32)), .val (.int (255 : Int32)), .val (.int (1151 : Int32)), .val (.int (926 : Int32)), .val (.long (sS <<< ((31 : Int32).toInt64 &&& 63))), .second, .val (.long (bits &&& (9223372036854775807 : Int64))), .second, .val (.int ((926 : Int32) - ee))] [(.int (64 : Int32)), (.int ((926 : Int32) - ee))])) _
              refine XS.icmpNo X0.here hx rfl (hb hby dex1_188) rfl (XT.ii_lt_f h5) ?_
              show Steps p.tables e below (s₁.setTop (mkF m 191 #[.val (.int p1), .val (.long sS), .second, .val (.int ee), .val (.long ff), .second, .val (.long bits), .second, .val (.int (31 : Int32)), .val (.int (29 : Int32)), .val (.int (896 : Int32)), .val (.int (255 : Int32)), .val (.int (1151 : Int32)), .val (.int (926 : Int32)), .val (.long (sS <<< ((31 : Int32).toInt64 &&& 63))), .second, .val (.long (bits &&& (9223372036854775807 : Int64))), .second, .val (.int ((926 : Int32) - ee))] [])) _
              refine XT.lload X0.here hx rfl (hb hby dex1_191) rfl ?_
              show Steps p.tables e below (s₁.setTop (mkF m 193 #[.val (.int p1), .val (.long sS), .second, .val (.int ee), .val (.long ff), .second, .val (.long bits), .second, .val (.int (31 : Int32)), .val (.int (29 : Int32)), .val (.int (896 : Int32)), .val (.int (255 : Int32)), .val (.int (1151 : Int32)), .val (.int (926 : Int32)), .val (.long (sS <<< ((31 : Int32).toInt64 &&& 63))), .second, .val (.long (bits &&& (9223372036854775807 : Int64))), .second, .val (.int ((926 : Int32) - ee))] [(.long (sS <<< ((31 : Int32).toInt64 &&& 63)))])) _
              exact k)
            obtain ⟨fs, hr, hrun, hended, hW, hsame⟩ := X0.leave (v := some (.long (sS <<< ((31 : Int32).toInt64 &&& 63)))) (fun h => by rw [Bd.returns] at h; cases h)
            refine ⟨_, _, pre7 _ ?_, hrun, hended, _, _, rfl, ?_, ⟨_, rfl⟩, hW, hsame.mono (by decide) (by decide)⟩
            · exact X0.lreturnOut hx Bd.returns (hb hby dex1_193) hr
            · show Q_ex1 Z p1 sS ee ff bits h0 n0 _ s₁.heap _
              unfold Q_ex1; rw [hf]
              rw [e0]
              exact ⟨rfl, N0, rfl⟩
      · skip
        have hf : own_exp 29 896 255 1151 926 (sS <<< ((31 : Int32).toInt64 &&& 63)) ee ff (bits &&& (9223372036854775807 : Int64)) = ((sS <<< ((31 : Int32).toInt64 &&& 63)) ||| (XT.ushrL (((255 : Int32).toInt64) <<< ((52 : Int32).toInt64 &&& 63)) (29 : Int32))) := by unfold own_exp; rw [if_neg h1, if_neg h2, if_neg h3]
        have pre5 : ∀ t, Steps p.tables e below (s₁.setTop (mkF m 155 #[.val (.int p1), .val (.long sS), .second, .val (.int ee), .val (.long ff), .second, .val (.long bits), .second, .val (.int (31 : Int32)), .val (.int (29 : Int32)), .val (.int (896 : Int32)), .val (.int (255 : Int32)), .val (.int (1151 : Int32)), .val (.int (926 : Int32)), .val (.long (sS <<< ((31 : Int32).toInt64 &&& 63))), .second, .val (.long (bits &&& (9223372036854775807 : Int64))), .second, .unset] [(.long ((sS <<< ((31 : Int32).toInt64 &&& 63)) ||| (XT.ushrL (((255 : Int32).toInt64) <<< ((52 : Int32).toInt64 &&& 63)) (29 : Int32))))])) t → Steps p.tables e below (s₁.setTop (entryFrame m #[(.int p1), (.long sS), (.int ee), (.long ff), (.long bits)] 19)) t := fun t k => pre4 t (by
          show Steps p.tables e below (s₁.setTop (mkF m 140 #[.val (.int p1), .val (.long sS), .second, .val (.int ee), .val (.long ff), .second, .val (.long bits), .second, .val (.int (31 : Int32)), .val (.int (29 : Int32)), .val (.int (896 : Int32)), .val (.int (255 : Int32)), .val (.int (1151 : Int32)), .val (.int (926 : Int32)), .val (.long (sS <<< ((31 : Int32).toInt64 &&& 63))), .second, .val (.long (bits &&& (9223372036854775807 : Int64))), .second, .unset] [(.int (1151 : Int32)), (.int ee)])) _
          refine XS.icmpNo X0.here hx rfl (hb hby dex1_140) rfl (XT.ii_lt_f h3) ?_
          show Steps p.tables e below (s₁.setTop (mkF m 143 #[.val (.int p1), .val (.long sS), .second, .val (.int ee), .val (.long ff), .second, .val (.long bits), .second, .val (.int (31 : Int32)), .val (.int (29 : Int32)), .val (.int (896 : Int32)), .val (.int (255 : Int32)), .val (.int (1151 : Int32)), .val (.int (926 : Int32)), .val (.long (sS <<< ((31 : Int32).toInt64 &&& 63))), .second, .val (.long (bits &&& (9223372036854775807 : Int64))), .second, .unset] [])) _
          refine XT.lload X0.here hx rfl (hb hby dex1_143) rfl ?_
          show Steps p.tables e below (s₁.setTop (mkF m 145 #[.val (.int p1), .val (.long sS), .second, .val (.int ee), .val (.long ff), .second, .val (.long bits), .second, .val (.int (31 : Int32)), .val (.int (29 : Int32)), .val (.int (896 : Int32)), .val (.int (255 : Int32)), .val (.int (1151 : Int32)), .val (.int (926 : Int32)), .val (.long (sS <<< ((31 : Int32).toInt64 &&& 63))), .second, .val (.long (bits &&& (9223372036854775807 : Int64))), .second, .unset] [(.long (sS <<< ((31 : Int32).toInt64 &&& 63)))])) _
          refine XS.iload X0.here hx rfl (hb hby dex1_145) rfl ?_
          show Steps p.tables e below (s₁.setTop (mkF m 147 #[.val (.int p1), .val (.long sS), .second, .val (.int ee), .val (.long ff), .second, .val (.long bits), .second, .val (.int (31 : Int32)), .val (.int (29 : Int32)), .val (.int (896 : Int32)), .val (.int (255 : Int32)), .val (.int (1151 : Int32)), .val (.int (926 : Int32)), .val (.long (sS <<< ((31 : Int32).toInt64 &&& 63))), .second, .val (.long (bits &&& (9223372036854775807 : Int64))), .second, .unset] [(.int (255 : Int32)), (.long (sS <<< ((31 : Int32).toInt64 &&& 63)))])) _
          refine XT.i2l X0.here hx rfl (hb hby dex1_147) rfl ?_
          show Steps p.tables e below (s₁.setTop (mkF m 148 #[.val (.int p1), .val (.long sS), .second, .val (.int ee), .val (.long ff), .second, .val (.long bits), .second, .val (.int (31 : Int32)), .val (.int (29 : Int32)), .val (.int (896 : Int32)), .val (.int (255 : Int32)), .val (.int (1151 : Int32)), .val (.int (926 : Int32)), .val (.long (sS <<< ((31 : Int32).toInt64 &&& 63))), .second, .val (.long (bits &&& (9223372036854775807 : Int64))), .second, .unset] [(.long ((255 : Int32).toInt64)), (.long (sS <<< ((31 : Int32).toInt64 &&& 63)))])) _
          refine XS.bipush X0.here hx rfl (hb hby dex1_148) ?_
          show Steps p.tables e below (s₁.setTop (mkF m 150 #[.val (.int p1), .val (.long sS), .second, .val (.int ee), .val (.long ff), .second, .val (.long bits), .second, .val (.int (31 : Int32)), .val (.int (29 : Int32)), .val (.int (896 : Int32)), .val (.int (255 : Int32)), .val (.int (1151 : Int32)), .val (.int (926 : Int32)), .val (.long (sS <<< ((31 : Int32).toInt64 &&& 63))), .second, .val (.long (bits &&& (9223372036854775807 : Int64))), .second, .unset] [(.int (52 : Int32)), (.long ((255 : Int32).toInt64)), (.long (sS <<< ((31 : Int32).toInt64 &&& 63)))])) _
          refine XT.lshl X0.here hx rfl (hb hby dex1_150) rfl ?_
          show Steps p.tables e below (s₁.setTop (mkF m 151 #[.val (.int p1), .val (.long sS), .second, .val (.int ee), .val (.long ff), .second, .val (.long bits), .second, .val (.int (31 : Int32)), .val (.int (29 : Int32)), .val (.int (896 : Int32)), .val (.int (255 : Int32)), .val (.int (1151 : Int32)), .val (.int (926 : Int32)), .val (.long (sS <<< ((31 : Int32).toInt64 &&& 63))), .second, .val (.long (bits &&& (9223372036854775807 : Int64))), .second, .unset] [(.long (((255 : Int32).toInt64) <<< ((52 : Int32).toInt64 &&& 63))), (.long (sS <<< ((31 : Int32).toInt64 &&& 63)))])) _
          refine XS.iload X0.here hx rfl (hb hby dex1_151) rfl ?_
          show Steps p.tables e below (s₁.setTop (mkF m 153 #[.val (.int p1), .val (.long sS), .second, .val (.int ee), .val (.long ff), .second, .val (.long bits), .second, .val (.int (31 : Int32)), .val (.int (29 : Int32)), .val (.int (896 : Int32)), .val (.int (255 : Int32)), .val (.int (1151 : Int32)), .val (.int (926 : Int32)), .val (.long (sS <<< ((31 : Int32).toInt64 &&& 63))), .second, .val (.long (bits &&& (9223372036854775807 : Int64))), .second, .unset] [(.int (29 : Int32)), (.long (((255 : Int32).toInt64) <<< ((52 : Int32).toInt64 &&& 63))), (.long (sS <<< ((31 : Int32).toInt64 &&& 63)))])) _
          refine XT.lushr X0.here hx rfl (hb hby dex1_153) rfl ?_
          show Steps p.tables e below (s₁.setTop (mkF m 154 #[.val (.int p1), .val (.long sS), .second, .val (.int ee), .val (.long ff), .second, .val (.long bits), .second, .val (.int (31 : Int32)), .val (.int (29 : Int32)), .val (.int (896 : Int32)), .val (.int (255 : Int32)), .val (.int (1151 : Int32)), .val (.int (926 : Int32)), .val (.long (sS <<< ((31 : Int32).toInt64 &&& 63))), .second, .val (.long (bits &&& (9223372036854775807 : Int64))), .second, .unset] [(.long (XT.ushrL (((255 : Int32).toInt64) <<< ((52 : Int32).toInt64 &&& 63)) (29 : Int32))), (.long (sS <<< ((31 : Int32).toInt64 &&& 63)))])) _
          refine XT.lor X0.here hx rfl (hb hby dex1_154) rfl ?_
          show Steps p.tables e below (s₁.setTop (mkF m 155 #[.val (.int p1), .val (.long sS), .second, .val (.int ee), .val (.long ff), .second, .val (.long bits), .second, .val (.int (31 : Int32)), .val (.int (29 : Int32)), .val (.int (896 : Int32)), .val (.int (255 : Int32)), .val (.int (1151 : Int32)), .val (.int (926 : Int32)), .val (.long (sS <<< ((31 : Int32).toInt64 &&& 63))), .second, .val (.long (bits &&& (9223372036854775807 : Int64))), .second, .unset] [(.long ((sS <<< ((31 : Int32).toInt64 &&& 63)) ||| (XT.ushrL (((255 : Int32).toInt64) <<< ((52 : Int32).toInt64 &&& 63)) (29 : Int32))))])) _
          exact k)
        obtain ⟨fs, hr, hrun, hended, hW, hsame⟩ := X0.leave (v := some (.long ((sS <<< ((31 : Int32).toInt64 &&& 63)) ||| (XT.ushrL (((255 : Int32).toInt64) <<< ((52 : Int32).toInt64 &&& 63)) (29 : Int32))))) (fun h => by rw [Bd.returns] at h; cases h)
        refine ⟨_, _, pre5 _ ?_, hrun, hended, _, _, rfl, ?_, ⟨_, rfl⟩, hW, hsame.mono (by decide) (by decide)⟩
        · exact X0.lreturnOut hx Bd.returns (hb hby dex1_155) hr
        · show Q_ex1 Z p1 sS ee ff bits h0 n0 _ s₁.heap _
          unfold Q_ex1; rw [hf]
          rw [e0]
          exact ⟨rfl, N0, rfl⟩
theorem own_w3 (p : Int32) : ((p &&& (2147483647 : Int32)) % (3 : Int32)) = 0 ∨ ((p &&& (2147483647 : Int32)) % (3 : Int32)) = 1 ∨ ((p &&& (2147483647 : Int32)) % (3 : Int32)) = 2 := by
  have h1 := c_mask p 2147483647 31 (by decide +kernel) (by decide +kernel)
  have h2 := (c_irem (p &&& 2147483647) 3 3 (by decide +kernel)).1
  have h5 : 0 ≤ (p &&& 2147483647).toInt := by rw [h1]; omega
  have h6 := h2 h5
  have z0 : (0 : Int32).toInt = 0 := by decide +kernel
  have z1 : (1 : Int32).toInt = 1 := by decide +kernel
  have z2 : (2 : Int32).toInt = 2 := by decide +kernel
  rw [← Int32.toInt_inj, ← Int32.toInt_inj, ← Int32.toInt_inj, z0, z1, z2]
  omega
theorem own_s1 (p : Int32) : ((p &&& (1 : Int32)).toInt64) = 0 ∨ ((p &&& (1 : Int32)).toInt64) = 1 := by
  have h1 := c_mask p 1 1 (by decide +kernel) (by decide +kernel)
  have h2 := c_i2l (p &&& 1)
  have z0 : (0 : Int64).toInt = 0 := by decide +kernel
  have z1 : (1 : Int64).toInt = 1 := by decide +kernel
  rw [← Int64.toInt_inj, ← Int64.toInt_inj, z0, z1, h2, h1]
  omega
theorem own_e1 (p : Int32) : ¬ (p &&& (2047 : Int32)) < 0 ∧ (p &&& (2047 : Int32)) < 2048 := by
  have h1 := c_mask p 2047 11 (by decide +kernel) (by decide +kernel)
  have z0 : (0 : Int32).toInt = 0 := by decide +kernel
  have z2 : (2048 : Int32).toInt = 2048 := by decide +kernel
  rw [Int32.lt_iff_toInt_lt, Int32.lt_iff_toInt_lt, z0, z2, h1]
  omega
theorem own_e3 (p : Int32) : ¬ ((860 : Int32) + ((p &&& (2147483647 : Int32)) % (301 : Int32))) < 0 ∧ ((860 : Int32) + ((p &&& (2147483647 : Int32)) % (301 : Int32))) < 2048 := by
  have h1 := c_mask p 2147483647 31 (by decide +kernel) (by decide +kernel)
  have h2 := (c_irem (p &&& 2147483647) 301 301 (by decide +kernel)).1
  have h5 : 0 ≤ (p &&& 2147483647).toInt := by rw [h1]; omega
  have h6 := h2 h5
  have h7 := c_iadd 860 ((p &&& (2147483647 : Int32)) % (301 : Int32))
  have h8 := rng32 ((860 : Int32) + ((p &&& (2147483647 : Int32)) % (301 : Int32)))
  have z0 : (0 : Int32).toInt = 0 := by decide +kernel
  have z1 : (860 : Int32).toInt = 860 := by decide +kernel
  have z2 : (2048 : Int32).toInt = 2048 := by decide +kernel
  rw [Int32.lt_iff_toInt_lt, Int32.lt_iff_toInt_lt, z0, z2]
  rw [z1] at h7
  omega
theorem own_f52 (p : Int64) : 0 ≤ (p &&& (4503599627370495 : Int64)).toInt ∧ (p &&& (4503599627370495 : Int64)).toInt < 4503599627370496 := by
  have h1 := c_maskL p 4503599627370495 52 (by decide +kernel) (by decide +kernel)
  have v : ((2 ^ 52 : Nat) : Int) = 4503599627370496 := by decide +kernel
  rw [h1, v]
  omega
theorem own_us (x : Int64) (q : Int32) (k : Nat) (hq : (q.toInt64.toUInt64 &&& Int64.toUInt64 63) = (q &&& 0x3f).toInt64.toUInt64) (hk : q.toBitVec.toNat % 64 = k) (h0 : 0 < k) : (XT.ushrL x q).toInt = x.toInt % 18446744073709551616 / (2 ^ k : Nat) := by
  unfold XT.ushrL
  rw [hq]
  exact c_lushr x q k hk h0
theorem own_parts {sS : Int64} {ee : Int32} {ff bits : Int64} (bsS : sS = 0 ∨ sS = 1) (bee : ¬ ee < 0 ∧ ee < 2048) (bff : 0 ≤ ff.toInt ∧ ff.toInt < 4503599627370496)
    (hbits : (((sS <<< ((63 : Int32).toInt64 &&& 63)) ||| (ee.toInt64 <<< ((52 : Int32).toInt64 &&& 63))) ||| ff) = bits) :
    XT.ushrL bits (63 : Int32) = sS ∧ ((XT.ushrL bits (52 : Int32)).toInt32 &&& (2047 : Int32)) = ee ∧ (bits &&& (4503599627370495 : Int64)) = ff ∧ (bits &&& (9223372036854775807 : Int64)).toInt = ee.toInt * 4503599627370496 + ff.toInt := by
  have z0 : (0 : Int32).toInt = 0 := by decide +kernel
  have z2 : (2048 : Int32).toInt = 2048 := by decide +kernel
  rw [Int32.lt_iff_toInt_lt, Int32.lt_iff_toInt_lt, z0, z2] at bee
  have s63 : ((63 : Int32).toInt64 &&& 63) = ((63 : Int32) &&& 0x3f).toInt64 := by decide +kernel
  have s52 : ((52 : Int32).toInt64 &&& 63) = ((52 : Int32) &&& 0x3f).toInt64 := by decide +kernel
  have p63 : ((2 ^ 63 : Nat) : Int) = 9223372036854775808 := by decide +kernel
  have p52 : ((2 ^ 52 : Nat) : Int) = 4503599627370496 := by decide +kernel
  have p11 : ((2 ^ 11 : Nat) : Int) = 2048 := by decide +kernel
  have hA := c_lshl sS 63 63 (by decide +kernel)
  have hB := c_lshl ee.toInt64 52 52 (by decide +kernel)
  rw [c_i2l, p52] at hB
  rw [p63] at hA
  rw [s63, s52] at hbits
  generalize sS <<< ((63 : Int32) &&& 0x3f).toInt64 = A at *
  generalize ee.toInt64 <<< ((52 : Int32) &&& 0x3f).toInt64 = B at *
  have rA := rng64 A
  have rB := rng64 B
  have hs : sS.toInt = 0 ∨ sS.toInt = 1 := by rcases bsS with rfl | rfl <;> decide +kernel
  have eA : A.toInt = -(sS.toInt * 9223372036854775808) := by rcases hs with q | q <;> rw [q] at hA ⊢ <;> omega
  have eB : B.toInt = ee.toInt * 4503599627370496 := by omega
  have o1 := c_orL A B 63 (by decide +kernel) 9223372036854775808 (by decide +kernel) (by rcases hs with q | q <;> rw [eA, q] <;> decide +kernel) (by omega) (by omega)
  have r1 := rng64 (A ||| B)
  have e1 : (A ||| B).toInt = A.toInt + B.toInt := by rcases hs with q | q <;> rw [q] at eA <;> omega
  have o2 := c_orL (A ||| B) ff 52 (by decide +kernel) 4503599627370496 (by decide +kernel) (by rcases hs with q | q <;> rw [e1, eA, q, eB] <;> omega) bff.1 bff.2
  rw [hbits] at o2
  have r2 := rng64 bits
  have e2 : bits.toInt = -(sS.toInt * 9223372036854775808) + ee.toInt * 4503599627370496 + ff.toInt := by rcases hs with q | q <;> rw [q] at eA ⊢ <;> omega
  have u1 := own_us bits 63 63 (by decide +kernel) (by decide +kernel) (by decide +kernel)
  have u2 := own_us bits 52 52 (by decide +kernel) (by decide +kernel) (by decide +kernel)
  rw [p63] at u1; rw [p52] at u2
  have m1 := c_maskL bits 4503599627370495 52 (by decide +kernel) (by decide +kernel)
  have m2 := c_maskL bits 9223372036854775807 63 (by decide +kernel) (by decide +kernel)
  rw [p52] at m1; rw [p63] at m2
  have i1 := c_l2i (XT.ushrL bits 52)
  have r3 := rng32 (XT.ushrL bits 52).toInt32
  have i2 := c_mask (XT.ushrL bits 52).toInt32 2047 11 (by decide +kernel) (by decide +kernel)
  rw [p11] at i2
  refine ⟨Int64.toInt_inj.mp ?_, Int32.toInt_inj.mp ?_, Int64.toInt_inj.mp ?_, ?_⟩
  · rw [u1, e2]; rcases hs with q | q <;> rw [q] <;> omega
  · rw [i2]; rcases hs with q | q <;> rw [q] at e2 <;> omega
  · rw [m1, e2]; rcases hs with q | q <;> rw [q] <;> omega
  · rw [m2, e2]; rcases hs with q | q <;> rw [q] <;> omega
theorem own_a0 {ee : Int32} (b1 : 0 ≤ ee.toInt) (b2 : ee.toInt < 2048) : (ee - 1023).toInt = ee.toInt - 1023 ∧ (42 + ((1 : Int32) - 15 - (ee - 1023))) = 1051 - ee := by
  have zk : (1023 : Int32).toInt = 1023 := by decide +kernel
  have zd : (42 : Int32).toInt = 42 := by decide +kernel
  have zs : (1051 : Int32).toInt = 1051 := by decide +kernel
  have a2 : ((1 : Int32) - 15).toInt = 1 - 15 := by decide +kernel
  have a1 : (ee - 1023).toInt = ee.toInt - 1023 := by
    have h := c_isub ee 1023; have r := rng32 (ee - 1023); rw [zk] at h; omega
  refine ⟨a1, ?_⟩
  have a3 : ((1 : Int32) - 15 - (ee - 1023)).toInt = 1 - 15 - (ee.toInt - 1023) := by
    have h := c_isub ((1 : Int32) - 15) (ee - 1023); have r := rng32 ((1 : Int32) - 15 - (ee - 1023)); rw [a1, a2] at h; omega
  apply Int32.toInt_inj.mp
  have h1 := c_iadd 42 ((1 : Int32) - 15 - (ee - 1023)); have r1 := rng32 (42 + ((1 : Int32) - 15 - (ee - 1023)))
  have h2 := c_isub 1051 ee; have r2 := rng32 (1051 - ee)
  rw [zd, a3] at h1
  rw [zs] at h2
  generalize (42 + ((1 : Int32) - 15 - (ee - 1023))).toInt = u at *
  generalize (1051 - ee).toInt = w at *
  clear a1 a2 a3 zk zd zs
  omega
theorem own_u0 (x : Int64) : (XT.ushrL x 42).toInt = x.toInt % 18446744073709551616 / 4398046511104 := by
  have h := own_us x 42 42 (by decide +kernel) (by decide +kernel) (by decide +kernel)
  have v1 : ((2 ^ 42 : Nat) : Int) = 4398046511104 := by decide +kernel
  rw [v1] at h
  exact h
theorem own_c10 {ff : Int64} (b1 : 0 ≤ ff.toInt) (b2 : ff.toInt < 4503599627370496) : (31744 : Int64) ||| XT.ushrL ff 42 = XT.ushrL ((139611588448485376 : Int64) ||| ff) 42 := by
  apply Int64.toInt_inj.mp
  have zX : (31744 : Int64).toInt = 31744 := by decide +kernel
  have zY : (139611588448485376 : Int64).toInt = 139611588448485376 := by decide +kernel
  have u1 := own_u0 ff
  have hu : (XT.ushrL ff 42).toInt = ff.toInt / 4398046511104 := by omega
  have r1 := c_orL 31744 (XT.ushrL ff 42) 10 (by decide +kernel) 1024 (by decide +kernel) (by rw [zX]; decide +kernel) (by omega) (by omega)
  have r4 := rng64 ((31744 : Int64) ||| XT.ushrL ff 42)
  have r2 := c_orL 139611588448485376 ff 52 (by decide +kernel) 4503599627370496 (by decide +kernel) (by rw [zY]; decide +kernel) b1 b2
  have r5 := rng64 ((139611588448485376 : Int64) ||| ff)
  have r3 := own_u0 ((139611588448485376 : Int64) ||| ff)
  rw [zX, hu] at r1; rw [zY] at r2
  rw [r3]
  generalize ((31744 : Int64) ||| XT.ushrL ff 42).toInt = A at *
  generalize ((139611588448485376 : Int64) ||| ff).toInt = B at *
  generalize ff.toInt = F at *
  clear u1 hu r3 zX zY
  have e1 : A = 31744 + F / 4398046511104 := by omega
  have e2 : B = 139611588448485376 + F := by omega
  rw [e1, e2]
  clear r1 r2 r4 r5 e1 e2
  omega
theorem own_c40 {ee : Int32} {ff mg : Int64} (e1 : 1008 < ee.toInt) (e2 : ee.toInt < 1039) (b1 : 0 ≤ ff.toInt) (b2 : ff.toInt < 4503599627370496) (hmg : mg.toInt = ee.toInt * 4503599627370496 + ff.toInt) :
    ((ee - 1023 + 15).toInt64 <<< ((10 : Int32).toInt64 &&& 63)) ||| XT.ushrL ff 42 = XT.ushrL (mg - 4539628424389459968) 42 := by
  have a1 := (own_a0 (ee := ee) (by omega) (by omega)).1
  have zb : (15 : Int32).toInt = 15 := by decide +kernel
  have zR : (4539628424389459968 : Int64).toInt = 4539628424389459968 := by decide +kernel
  have s1 : (ee - 1023 + 15).toInt = ee.toInt - 1008 := by
    have h := c_iadd (ee - 1023) 15; have r := rng32 (ee - 1023 + 15); rw [a1, zb] at h; clear hmg; omega
  have s3 : ((10 : Int32).toInt64 &&& 63) = ((10 : Int32) &&& 0x3f).toInt64 := by decide +kernel
  have s4 := c_lshl (ee - 1023 + 15).toInt64 10 10 (by decide +kernel)
  have v2 : ((2 ^ 10 : Nat) : Int) = 1024 := by decide +kernel
  rw [c_i2l, s1, v2] at s4
  rw [s3]
  generalize (ee - 1023 + 15).toInt64 <<< ((10 : Int32) &&& 0x3f).toInt64 = G at *
  have s5 := rng64 G
  have s6 : G.toInt = (ee.toInt - 1008) * 1024 := by clear hmg; omega
  have hu : (XT.ushrL ff 42).toInt = ff.toInt / 4398046511104 := by have u1 := own_u0 ff; clear hmg; omega
  apply Int64.toInt_inj.mp
  have r1 := c_orL G (XT.ushrL ff 42) 10 (by decide +kernel) 1024 (by decide +kernel) (by rw [s6]; omega) (by omega) (by omega)
  have r4 := rng64 (G ||| XT.ushrL ff 42)
  have r3 := own_u0 (mg - 4539628424389459968)
  have r2 := c_lsub mg 4539628424389459968
  have r5 := rng64 (mg - 4539628424389459968)
  rw [zR, hmg] at r2
  rw [s6, hu] at r1
  rw [r3]
  generalize (G ||| XT.ushrL ff 42).toInt = A at *
  generalize (mg - 4539628424389459968).toInt = B at *
  generalize ff.toInt = F at *
  generalize ee.toInt = E at *
  have q1 : A = (E - 1008) * 1024 + F / 4398046511104 := by clear r2 r3 hmg; omega
  have q2 : B = (E - 1008) * 4503599627370496 + F := by clear r1 r3 hmg q1; omega
  rw [q1, q2]
  clear r1 r2 r3 r4 r5 hmg q1 q2 s4 s5 s6 hu a1 s1
  omega
set_option maxRecDepth 65536 in
set_option maxHeartbeats 4000000 in
theorem own_core0 {sg : Int64} {ee : Int32} {ff mg : Int64} (bee : ¬ ee < 0 ∧ ee < 2048) (bff : 0 ≤ ff.toInt ∧ ff.toInt < 4503599627370496) (hmg : mg.toInt = ee.toInt * 4503599627370496 + ff.toInt) :
    own_nar 15 15 42 31 10 sg ee ff = own_exp 42 1008 31 1039 1051 sg ee ff mg := by
  have z0 : (0 : Int32).toInt = 0 := by decide +kernel
  have z2 : (2048 : Int32).toInt = 2048 := by decide +kernel
  have zi : (1039 : Int32).toInt = 1039 := by decide +kernel
  have zr : (1008 : Int32).toInt = 1008 := by decide +kernel
  have zb : (15 : Int32).toInt = 15 := by decide +kernel
  rw [Int32.lt_iff_toInt_lt, Int32.lt_iff_toInt_lt, z0, z2] at bee
  obtain ⟨a1, a4⟩ := own_a0 (ee := ee) (by omega) bee.2
  have a2 : ((1 : Int32) - 15).toInt = 1 - 15 := by decide +kernel
  have hX : (((31 : Int32).toInt64 <<< ((10 : Int32).toInt64 &&& 63)) : Int64) = 31744 := by decide +kernel
  have hY : (((31 : Int32).toInt64 <<< ((52 : Int32).toInt64 &&& 63)) : Int64) = 139611588448485376 := by decide +kernel
  have hR : (((1008 : Int32).toInt64 <<< ((52 : Int32).toInt64 &&& 63)) : Int64) = 4539628424389459968 := by decide +kernel
  have hYX : XT.ushrL 139611588448485376 42 = 31744 := by decide +kernel
  unfold own_nar own_exp
  rw [hX, hY, hR, hYX, a4]
  by_cases q1 : ee = 2047
  · rw [if_pos q1, if_pos q1, Int64.or_assoc, own_c10 bff.1 bff.2]
  · rw [if_neg q1, if_neg q1]
    by_cases q2 : ee = 0
    · rw [if_pos q2, if_pos q2]
    · rw [if_neg q2, if_neg q2]
      by_cases q3 : ee < 1039
      · have p3 : ¬ (15 : Int32) < ee - 1023 := by
          rw [Int32.lt_iff_toInt_lt, zi] at q3; rw [Int32.lt_iff_toInt_lt, zb, a1]; clear hmg; omega
        rw [if_neg p3, if_pos q3]
        by_cases q4 : (1008 : Int32) < ee
        · have p4 : ¬ ee - 1023 < (1 : Int32) - 15 := by
            rw [Int32.lt_iff_toInt_lt, zr] at q4; rw [Int32.lt_iff_toInt_lt, a1, a2]; clear hmg; omega
          rw [if_neg p4, if_pos q4, Int64.or_assoc]
          rw [Int32.lt_iff_toInt_lt, zr] at q4
          rw [Int32.lt_iff_toInt_lt, zi] at q3
          rw [own_c40 q4 q3 bff.1 bff.2 hmg]
        · have p4 : ee - 1023 < (1 : Int32) - 15 := by
            rw [Int32.lt_iff_toInt_lt, zr] at q4; rw [Int32.lt_iff_toInt_lt, a1, a2]; clear hmg; omega
          rw [if_pos p4, if_neg q4]
      · have p3 : (15 : Int32) < ee - 1023 := by
          rw [Int32.lt_iff_toInt_lt, zi] at q3; rw [Int32.lt_iff_toInt_lt, zb, a1]; clear hmg; omega
        rw [if_pos p3, if_neg q3]
theorem own_same0 {sS : Int64} {ee : Int32} {ff bits : Int64} (bsS : sS = 0 ∨ sS = 1) (bee : ¬ ee < 0 ∧ ee < 2048) (bff : 0 ≤ ff.toInt ∧ ff.toInt < 4503599627370496)
    (hbits : (((sS <<< ((63 : Int32).toInt64 &&& 63)) ||| (ee.toInt64 <<< ((52 : Int32).toInt64 &&& 63))) ||| ff) = bits) :
    own_nar 15 15 42 31 10 (XT.ushrL bits (63 : Int32) <<< ((15 : Int32).toInt64 &&& 63)) ((XT.ushrL bits (52 : Int32)).toInt32 &&& (2047 : Int32)) (bits &&& (4503599627370495 : Int64)) = own_exp 42 1008 31 1039 1051 (sS <<< ((15 : Int32).toInt64 &&& 63)) ee ff (bits &&& (9223372036854775807 : Int64)) := by
  obtain ⟨g1, g2, g3, g4⟩ := own_parts bsS bee bff hbits
  rw [g1, g2, g3]
  exact own_core0 bee bff g4
theorem own_a1 {ee : Int32} (b1 : 0 ≤ ee.toInt) (b2 : ee.toInt < 2048) : (ee - 1023).toInt = ee.toInt - 1023 ∧ (29 + ((1 : Int32) - 127 - (ee - 1023))) = 926 - ee := by
  have zk : (1023 : Int32).toInt = 1023 := by decide +kernel
  have zd : (29 : Int32).toInt = 29 := by decide +kernel
  have zs : (926 : Int32).toInt = 926 := by decide +kernel
  have a2 : ((1 : Int32) - 127).toInt = 1 - 127 := by decide +kernel
  have a1 : (ee - 1023).toInt = ee.toInt - 1023 := by
    have h := c_isub ee 1023; have r := rng32 (ee - 1023); rw [zk] at h; omega
  refine ⟨a1, ?_⟩
  have a3 : ((1 : Int32) - 127 - (ee - 1023)).toInt = 1 - 127 - (ee.toInt - 1023) := by
    have h := c_isub ((1 : Int32) - 127) (ee - 1023); have r := rng32 ((1 : Int32) - 127 - (ee - 1023)); rw [a1, a2] at h; omega
  apply Int32.toInt_inj.mp
  have h1 := c_iadd 29 ((1 : Int32) - 127 - (ee - 1023)); have r1 := rng32 (29 + ((1 : Int32) - 127 - (ee - 1023)))
  have h2 := c_isub 926 ee; have r2 := rng32 (926 - ee)
  rw [zd, a3] at h1
  rw [zs] at h2
  generalize (29 + ((1 : Int32) - 127 - (ee - 1023))).toInt = u at *
  generalize (926 - ee).toInt = w at *
  clear a1 a2 a3 zk zd zs
  omega
theorem own_u1 (x : Int64) : (XT.ushrL x 29).toInt = x.toInt % 18446744073709551616 / 536870912 := by
  have h := own_us x 29 29 (by decide +kernel) (by decide +kernel) (by decide +kernel)
  have v1 : ((2 ^ 29 : Nat) : Int) = 536870912 := by decide +kernel
  rw [v1] at h
  exact h
theorem own_c11 {ff : Int64} (b1 : 0 ≤ ff.toInt) (b2 : ff.toInt < 4503599627370496) : (2139095040 : Int64) ||| XT.ushrL ff 29 = XT.ushrL ((1148417904979476480 : Int64) ||| ff) 29 := by
  apply Int64.toInt_inj.mp
  have zX : (2139095040 : Int64).toInt = 2139095040 := by decide +kernel
  have zY : (1148417904979476480 : Int64).toInt = 1148417904979476480 := by decide +kernel
  have u1 := own_u1 ff
  have hu : (XT.ushrL ff 29).toInt = ff.toInt / 536870912 := by omega
  have r1 := c_orL 2139095040 (XT.ushrL ff 29) 23 (by decide +kernel) 8388608 (by decide +kernel) (by rw [zX]; decide +kernel) (by omega) (by omega)
  have r4 := rng64 ((2139095040 : Int64) ||| XT.ushrL ff 29)
  have r2 := c_orL 1148417904979476480 ff 52 (by decide +kernel) 4503599627370496 (by decide +kernel) (by rw [zY]; decide +kernel) b1 b2
  have r5 := rng64 ((1148417904979476480 : Int64) ||| ff)
  have r3 := own_u1 ((1148417904979476480 : Int64) ||| ff)
  rw [zX, hu] at r1; rw [zY] at r2
  rw [r3]
  generalize ((2139095040 : Int64) ||| XT.ushrL ff 29).toInt = A at *
  generalize ((1148417904979476480 : Int64) ||| ff).toInt = B at *
  generalize ff.toInt = F at *
  clear u1 hu r3 zX zY
  have e1 : A = 2139095040 + F / 536870912 := by omega
  have e2 : B = 1148417904979476480 + F := by omega
  rw [e1, e2]
  clear r1 r2 r4 r5 e1 e2
  omega
theorem own_c41 {ee : Int32} {ff mg : Int64} (e1 : 896 < ee.toInt) (e2 : ee.toInt < 1151) (b1 : 0 ≤ ff.toInt) (b2 : ff.toInt < 4503599627370496) (hmg : mg.toInt = ee.toInt * 4503599627370496 + ff.toInt) :
    ((ee - 1023 + 127).toInt64 <<< ((23 : Int32).toInt64 &&& 63)) ||| XT.ushrL ff 29 = XT.ushrL (mg - 4035225266123964416) 29 := by
  have a1 := (own_a1 (ee := ee) (by omega) (by omega)).1
  have zb : (127 : Int32).toInt = 127 := by decide +kernel
  have zR : (4035225266123964416 : Int64).toInt = 4035225266123964416 := by decide +kernel
  have s1 : (ee - 1023 + 127).toInt = ee.toInt - 896 := by
    have h := c_iadd (ee - 1023) 127; have r := rng32 (ee - 1023 + 127); rw [a1, zb] at h; clear hmg; omega
  have s3 : ((23 : Int32).toInt64 &&& 63) = ((23 : Int32) &&& 0x3f).toInt64 := by decide +kernel
  have s4 := c_lshl (ee - 1023 + 127).toInt64 23 23 (by decide +kernel)
  have v2 : ((2 ^ 23 : Nat) : Int) = 8388608 := by decide +kernel
  rw [c_i2l, s1, v2] at s4
  rw [s3]
  generalize (ee - 1023 + 127).toInt64 <<< ((23 : Int32) &&& 0x3f).toInt64 = G at *
  have s5 := rng64 G
  have s6 : G.toInt = (ee.toInt - 896) * 8388608 := by clear hmg; omega
  have hu : (XT.ushrL ff 29).toInt = ff.toInt / 536870912 := by have u1 := own_u1 ff; clear hmg; omega
  apply Int64.toInt_inj.mp
  have r1 := c_orL G (XT.ushrL ff 29) 23 (by decide +kernel) 8388608 (by decide +kernel) (by rw [s6]; omega) (by omega) (by omega)
  have r4 := rng64 (G ||| XT.ushrL ff 29)
  have r3 := own_u1 (mg - 4035225266123964416)
  have r2 := c_lsub mg 4035225266123964416
  have r5 := rng64 (mg - 4035225266123964416)
  rw [zR, hmg] at r2
  rw [s6, hu] at r1
  rw [r3]
  generalize (G ||| XT.ushrL ff 29).toInt = A at *
  generalize (mg - 4035225266123964416).toInt = B at *
  generalize ff.toInt = F at *
  generalize ee.toInt = E at *
  have q1 : A = (E - 896) * 8388608 + F / 536870912 := by clear r2 r3 hmg; omega
  have q2 : B = (E - 896) * 4503599627370496 + F := by clear r1 r3 hmg q1; omega
  rw [q1, q2]
  clear r1 r2 r3 r4 r5 hmg q1 q2 s4 s5 s6 hu a1 s1
  omega
set_option maxRecDepth 65536 in
set_option maxHeartbeats 4000000 in
theorem own_core1 {sg : Int64} {ee : Int32} {ff mg : Int64} (bee : ¬ ee < 0 ∧ ee < 2048) (bff : 0 ≤ ff.toInt ∧ ff.toInt < 4503599627370496) (hmg : mg.toInt = ee.toInt * 4503599627370496 + ff.toInt) :
    own_nar 31 127 29 255 23 sg ee ff = own_exp 29 896 255 1151 926 sg ee ff mg := by
  have z0 : (0 : Int32).toInt = 0 := by decide +kernel
  have z2 : (2048 : Int32).toInt = 2048 := by decide +kernel
  have zi : (1151 : Int32).toInt = 1151 := by decide +kernel
  have zr : (896 : Int32).toInt = 896 := by decide +kernel
  have zb : (127 : Int32).toInt = 127 := by decide +kernel
  rw [Int32.lt_iff_toInt_lt, Int32.lt_iff_toInt_lt, z0, z2] at bee
  obtain ⟨a1, a4⟩ := own_a1 (ee := ee) (by omega) bee.2
  have a2 : ((1 : Int32) - 127).toInt = 1 - 127 := by decide +kernel
  have hX : (((255 : Int32).toInt64 <<< ((23 : Int32).toInt64 &&& 63)) : Int64) = 2139095040 := by decide +kernel
  have hY : (((255 : Int32).toInt64 <<< ((52 : Int32).toInt64 &&& 63)) : Int64) = 1148417904979476480 := by decide +kernel
  have hR : (((896 : Int32).toInt64 <<< ((52 : Int32).toInt64 &&& 63)) : Int64) = 4035225266123964416 := by decide +kernel
  have hYX : XT.ushrL 1148417904979476480 29 = 2139095040 := by decide +kernel
  unfold own_nar own_exp
  rw [hX, hY, hR, hYX, a4]
  by_cases q1 : ee = 2047
  · rw [if_pos q1, if_pos q1, Int64.or_assoc, own_c11 bff.1 bff.2]
  · rw [if_neg q1, if_neg q1]
    by_cases q2 : ee = 0
    · rw [if_pos q2, if_pos q2]
    · rw [if_neg q2, if_neg q2]
      by_cases q3 : ee < 1151
      · have p3 : ¬ (127 : Int32) < ee - 1023 := by
          rw [Int32.lt_iff_toInt_lt, zi] at q3; rw [Int32.lt_iff_toInt_lt, zb, a1]; clear hmg; omega
        rw [if_neg p3, if_pos q3]
        by_cases q4 : (896 : Int32) < ee
        · have p4 : ¬ ee - 1023 < (1 : Int32) - 127 := by
            rw [Int32.lt_iff_toInt_lt, zr] at q4; rw [Int32.lt_iff_toInt_lt, a1, a2]; clear hmg; omega
          rw [if_neg p4, if_pos q4, Int64.or_assoc]
          rw [Int32.lt_iff_toInt_lt, zr] at q4
          rw [Int32.lt_iff_toInt_lt, zi] at q3
          rw [own_c41 q4 q3 bff.1 bff.2 hmg]
        · have p4 : ee - 1023 < (1 : Int32) - 127 := by
            rw [Int32.lt_iff_toInt_lt, zr] at q4; rw [Int32.lt_iff_toInt_lt, a1, a2]; clear hmg; omega
          rw [if_pos p4, if_neg q4]
      · have p3 : (127 : Int32) < ee - 1023 := by
          rw [Int32.lt_iff_toInt_lt, zi] at q3; rw [Int32.lt_iff_toInt_lt, zb, a1]; clear hmg; omega
        rw [if_pos p3, if_neg q3]
theorem own_same1 {sS : Int64} {ee : Int32} {ff bits : Int64} (bsS : sS = 0 ∨ sS = 1) (bee : ¬ ee < 0 ∧ ee < 2048) (bff : 0 ≤ ff.toInt ∧ ff.toInt < 4503599627370496)
    (hbits : (((sS <<< ((63 : Int32).toInt64 &&& 63)) ||| (ee.toInt64 <<< ((52 : Int32).toInt64 &&& 63))) ||| ff) = bits) :
    own_nar 31 127 29 255 23 (XT.ushrL bits (63 : Int32) <<< ((31 : Int32).toInt64 &&& 63)) ((XT.ushrL bits (52 : Int32)).toInt32 &&& (2047 : Int32)) (bits &&& (4503599627370495 : Int64)) = own_exp 29 896 255 1151 926 (sS <<< ((31 : Int32).toInt64 &&& 63)) ee ff (bits &&& (9223372036854775807 : Int64)) := by
  obtain ⟨g1, g2, g3, g4⟩ := own_parts bsS bee bff hbits
  rw [g1, g2, g3]
  exact own_core1 bee bff g4
theorem pd__J_J : parseMethodDescriptor "(J)J" = some ⟨[.long], some .long⟩ := by decide +kernel
theorem pd__IJIJJ_J : parseMethodDescriptor "(IJIJJ)J" = some ⟨[.int, .long, .int, .long, .long], some .long⟩ := by decide +kernel
theorem pn_0 : plainName "com/example/samewire/samewire/FloatFormatNarrowPinLaw" = true := by first | (simp [plainName, overriddenIn]; done) | decide +kernel
theorem ef_0 (m : MethodId) (p1 : Int32) (p2 : Int32) (p3 : Int32) (p4 : Int64) (p5 : Int32) : entryFrame m #[(.int p1), (.int p2), (.int p3), (.long p4), (.int p5)] maxLocals = (mkF m 0 #[.val (.int p1), .val (.int p2), .val (.int p3), .val (.long p4), .second, .val (.int p5), .unset, .unset, .unset, .unset, .unset, .unset, .unset, .unset, .unset, .unset] []) := by first | (simp [entryFrame, mkF, argsToLocals, Value.category, maxLocals]; done) | rfl
def Q_0 (Z : State) (p1 p2 p3 : Int32) (p4 : Int64) (p5 : Int32) (aH aS aD : Addr) (h0 : Heap) (n0 : Nat) (v : Option Value) (h : Heap) (L : List Loc) : Prop := v = some (.int 1) ∧ Fr n0 L
set_option maxRecDepth 65536 in
set_option maxHeartbeats 40000000 in
theorem rm_0 (l : Launch) (Z : State) (a0 : Array Value) (hw : ∀ d ∈ tables_1, d.before a0 Z = true) (ws : List Jvm.Cond) (p1 p2 p3 : Int32) (p4 : Int64) (p5 : Int32) (aH aS aD : Addr) (h0 : Heap) (n0 : Nat) (Z0 : n0 ≤ h0.size) (SHALF : Sta Z h0 "com/example/samewire/samewire/FloatFormat" "HALF" "Lcom/example/samewire/samewire/FloatFormat;" (.ref aH)) (EHALF : Exa Z h0 aH "com/example/samewire/samewire/FloatFormat") (SSINGLE : Sta Z h0 "com/example/samewire/samewire/FloatFormat" "SINGLE" "Lcom/example/samewire/samewire/FloatFormat;" (.ref aS)) (ESINGLE : Exa Z h0 aS "com/example/samewire/samewire/FloatFormat") (SDOUBLE : Sta Z h0 "com/example/samewire/samewire/FloatFormat" "DOUBLE" "Lcom/example/samewire/samewire/FloatFormat;" (.ref aD)) (EDOUBLE : Exa Z h0 aD "com/example/samewire/samewire/FloatFormat") (neH : aH ≠ aD) (neS : aS ≠ aD) (FHALF_ss : Fld Z h0 aH "com/example/samewire/samewire/FloatFormat" "signShift" "I" (.int 15)) (FHALF_bi : Fld Z h0 aH "com/example/samewire/samewire/FloatFormat" "bias" "I" (.int 15)) (FHALF_dr : Fld Z h0 aH "com/example/samewire/samewire/FloatFormat" "droppedBits" "I" (.int 42)) (FHALF_sp : Fld Z h0 aH "com/example/samewire/samewire/FloatFormat" "specialExponent" "I" (.int 31)) (FHALF_fr : Fld Z h0 aH "com/example/samewire/samewire/FloatFormat" "fractionBits" "I" (.int 10)) (FSINGLE_ss : Fld Z h0 aS "com/example/samewire/samewire/FloatFormat" "signShift" "I" (.int 31)) (FSINGLE_bi : Fld Z h0 aS "com/example/samewire/samewire/FloatFormat" "bias" "I" (.int 127)) (FSINGLE_dr : Fld Z h0 aS "com/example/samewire/samewire/FloatFormat" "droppedBits" "I" (.int 29)) (FSINGLE_sp : Fld Z h0 aS "com/example/samewire/samewire/FloatFormat" "specialExponent" "I" (.int 255)) (FSINGLE_fr : Fld Z h0 aS "com/example/samewire/samewire/FloatFormat" "fractionBits" "I" (.int 23)) :
    MetFree l x (head1 (Jvm.Cond.code x code maxLocals ret :: ws) room_1) (fun a U => a = #[(.int p1), (.int p2), (.int p3), (.long p4), (.int p5)] ∧ Z.Warmed39 U.vm ∧ U.heap = h0) (fun _ _ _ _ _ => True) (fun _ U o U' => ∃ v L, o = .returned v ∧ Q_0 Z p1 p2 p3 p4 p5 aH aS aD h0 n0 v U'.heap L ∧ FrameEnd U o U' L room_1.cells room_1.slots) := by
  refine MetFree.of_bodySF (plainFor_of_name pn_0) hisR ?_
  intro p e s m args below meth c s₁ Bd hml0 hP hK
  obtain ⟨rfl, hZ, hh⟩ := hP
  have hx := Bd.exec
  have hby := Bd.bytes
  have hml : c.maxLocals = 16 := hml0
  have hown : s.vm.findClass "com/example/samewire/samewire/FloatFormatNarrowPinLaw" = some m.cls := findClass_of_methodNamed Bd.named
  have hnm := (name_of_methodNamed Bd.named Bd.method).1
  have X0 : Stand p l e room_1 s m #[(.int p1), (.int p2), (.int p3), (.long p4), (.int p5)] below meth c s₁ [] 0 0 := Stand.of_body Bd
  have e0 : s₁.heap = h0 := by rw [← hh, Bd.state]; rfl
  have N0 := Fr.nil n0
  have pre0 : ∀ t, Steps p.tables e below (s₁.setTop (mkF m 0 #[.val (.int p1), .val (.int p2), .val (.int p3), .val (.long p4), .second, .val (.int p5), .unset, .unset, .unset, .unset, .unset, .unset, .unset, .unset, .unset, .unset] [])) t → Steps p.tables e below (s₁.setTop (entryFrame m #[(.int p1), (.int p2), (.int p3), (.long p4), (.int p5)] maxLocals)) t := fun t k => castTop (ef_0 m p1 p2 p3 p4 p5) k
  obtain ⟨ww, hww, bww⟩ : ∃ z : Int32, ((p1 &&& (2147483647 : Int32)) % (3 : Int32)) = z ∧ (z = 0 ∨ z = 1 ∨ z = 2) := ⟨_, rfl, own_w3 p1⟩
  obtain ⟨sS, hsS, bsS⟩ : ∃ z : Int64, ((p2 &&& (1 : Int32)).toInt64) = z ∧ (z = 0 ∨ z = 1) := ⟨_, rfl, own_s1 p2⟩
  have pre2 : ∀ t, Steps p.tables e below (s₁.setTop (mkF m 20 #[.val (.int p1), .val (.int p2), .val (.int p3), .val (.long p4), .second, .val (.int p5), .val (.int ww), .val (.long sS), .second, .val (.int (p5 &&& (3 : Int32))), .unset, .unset, .unset, .unset, .unset, .unset] [])) t → Steps p.tables e below (s₁.setTop (entryFrame m #[(.int p1), (.int p2), (.int p3), (.long p4), (.int p5)] maxLocals)) t := fun t k => pre0 t (by
    show Steps p.tables e below (s₁.setTop (mkF m 0 #[.val (.int p1), .val (.int p2), .val (.int p3), .val (.long p4), .second, .val (.int p5), .unset, .unset, .unset, .unset, .unset, .unset, .unset, .unset, .unset, .unset] [])) _
    refine XS.iloadN X0.here hx rfl (hb hby at_0) rfl ?_
    show Steps p.tables e below (s₁.setTop (mkF m 1 #[.val (.int p1), .val (.int p2), .val (.int p3), .val (.long p4), .second, .val (.int p5), .unset, .unset, .unset, .unset, .unset, .unset, .unset, .unset, .unset, .unset] [(.int p1)])) _
    refine X0.ldcI hx hown (mvT hZ (hw _ (List.mem_of_getElem? (i := 0) rfl))) rfl (hb hby at_1) ?_
    show Steps p.tables e below (s₁.setTop (mkF m 3 #[.val (.int p1), .val (.int p2), .val (.int p3), .val (.long p4), .second, .val (.int p5), .unset, .unset, .unset, .unset, .unset, .unset, .unset, .unset, .unset, .unset] [(.int (2147483647 : Int32)), (.int p1)])) _
    refine XS.iand X0.here hx rfl (hb hby at_3) rfl ?_
    show Steps p.tables e below (s₁.setTop (mkF m 4 #[.val (.int p1), .val (.int p2), .val (.int p3), .val (.long p4), .second, .val (.int p5), .unset, .unset, .unset, .unset, .unset, .unset, .unset, .unset, .unset, .unset] [(.int (p1 &&& (2147483647 : Int32)))])) _
    refine XS.iconst X0.here hx rfl (hb hby at_4) ?_
    show Steps p.tables e below (s₁.setTop (mkF m 5 #[.val (.int p1), .val (.int p2), .val (.int p3), .val (.long p4), .second, .val (.int p5), .unset, .unset, .unset, .unset, .unset, .unset, .unset, .unset, .unset, .unset] [(.int (3 : Int32)), (.int (p1 &&& (2147483647 : Int32)))])) _
    refine XS.irem X0.here hx rfl (hb hby at_5) rfl (by decide) ?_
    show Steps p.tables e below (s₁.setTop (mkF m 6 #[.val (.int p1), .val (.int p2), .val (.int p3), .val (.long p4), .second, .val (.int p5), .unset, .unset, .unset, .unset, .unset, .unset, .unset, .unset, .unset, .unset] [(.int ((p1 &&& (2147483647 : Int32)) - ((p1 &&& (2147483647 : Int32)) / (3 : Int32)) * (3 : Int32)))])) _
    rw [own_irem]
    show Steps p.tables e below (s₁.setTop (mkF m 6 #[.val (.int p1), .val (.int p2), .val (.int p3), .val (.long p4), .second, .val (.int p5), .unset, .unset, .unset, .unset, .unset, .unset, .unset, .unset, .unset, .unset] [(.int ((p1 &&& (2147483647 : Int32)) % (3 : Int32)))])) _
    rw [hww]
    show Steps p.tables e below (s₁.setTop (mkF m 6 #[.val (.int p1), .val (.int p2), .val (.int p3), .val (.long p4), .second, .val (.int p5), .unset, .unset, .unset, .unset, .unset, .unset, .unset, .unset, .unset, .unset] [(.int ww)])) _
    refine XS.istore X0.here hx rfl (hb hby at_6) rfl (l' := #[.val (.int p1), .val (.int p2), .val (.int p3), .val (.long p4), .second, .val (.int p5), .val (.int ww), .unset, .unset, .unset, .unset, .unset, .unset, .unset, .unset, .unset]) rfl ?_
    show Steps p.tables e below (s₁.setTop (mkF m 8 #[.val (.int p1), .val (.int p2), .val (.int p3), .val (.long p4), .second, .val (.int p5), .val (.int ww), .unset, .unset, .unset, .unset, .unset, .unset, .unset, .unset, .unset] [])) _
    refine XS.iloadN X0.here hx rfl (hb hby at_8) rfl ?_
    show Steps p.tables e below (s₁.setTop (mkF m 9 #[.val (.int p1), .val (.int p2), .val (.int p3), .val (.long p4), .second, .val (.int p5), .val (.int ww), .unset, .unset, .unset, .unset, .unset, .unset, .unset, .unset, .unset] [(.int p2)])) _
    refine XS.iconst X0.here hx rfl (hb hby at_9) ?_
    show Steps p.tables e below (s₁.setTop (mkF m 10 #[.val (.int p1), .val (.int p2), .val (.int p3), .val (.long p4), .second, .val (.int p5), .val (.int ww), .unset, .unset, .unset, .unset, .unset, .unset, .unset, .unset, .unset] [(.int (1 : Int32)), (.int p2)])) _
    refine XS.iand X0.here hx rfl (hb hby at_10) rfl ?_
    show Steps p.tables e below (s₁.setTop (mkF m 11 #[.val (.int p1), .val (.int p2), .val (.int p3), .val (.long p4), .second, .val (.int p5), .val (.int ww), .unset, .unset, .unset, .unset, .unset, .unset, .unset, .unset, .unset] [(.int (p2 &&& (1 : Int32)))])) _
    refine XT.i2l X0.here hx rfl (hb hby at_11) rfl ?_
    show Steps p.tables e below (s₁.setTop (mkF m 12 #[.val (.int p1), .val (.int p2), .val (.int p3), .val (.long p4), .second, .val (.int p5), .val (.int ww), .unset, .unset, .unset, .unset, .unset, .unset, .unset, .unset, .unset] [(.long ((p2 &&& (1 : Int32)).toInt64))])) _
    rw [hsS]
    show Steps p.tables e below (s₁.setTop (mkF m 12 #[.val (.int p1), .val (.int p2), .val (.int p3), .val (.long p4), .second, .val (.int p5), .val (.int ww), .unset, .unset, .unset, .unset, .unset, .unset, .unset, .unset, .unset] [(.long sS)])) _
    refine XT.lstore X0.here hx rfl (hb hby at_12) rfl (l' := #[.val (.int p1), .val (.int p2), .val (.int p3), .val (.long p4), .second, .val (.int p5), .val (.int ww), .val (.long sS), .second, .unset, .unset, .unset, .unset, .unset, .unset, .unset]) rfl ?_
    show Steps p.tables e below (s₁.setTop (mkF m 14 #[.val (.int p1), .val (.int p2), .val (.int p3), .val (.long p4), .second, .val (.int p5), .val (.int ww), .val (.long sS), .second, .unset, .unset, .unset, .unset, .unset, .unset, .unset] [])) _
    refine XS.iload X0.here hx rfl (hb hby at_14) rfl ?_
    show Steps p.tables e below (s₁.setTop (mkF m 16 #[.val (.int p1), .val (.int p2), .val (.int p3), .val (.long p4), .second, .val (.int p5), .val (.int ww), .val (.long sS), .second, .unset, .unset, .unset, .unset, .unset, .unset, .unset] [(.int p5)])) _
    refine XS.iconst X0.here hx rfl (hb hby at_16) ?_
    show Steps p.tables e below (s₁.setTop (mkF m 17 #[.val (.int p1), .val (.int p2), .val (.int p3), .val (.long p4), .second, .val (.int p5), .val (.int ww), .val (.long sS), .second, .unset, .unset, .unset, .unset, .unset, .unset, .unset] [(.int (3 : Int32)), (.int p5)])) _
    refine XS.iand X0.here hx rfl (hb hby at_17) rfl ?_
    show Steps p.tables e below (s₁.setTop (mkF m 18 #[.val (.int p1), .val (.int p2), .val (.int p3), .val (.long p4), .second, .val (.int p5), .val (.int ww), .val (.long sS), .second, .unset, .unset, .unset, .unset, .unset, .unset, .unset] [(.int (p5 &&& (3 : Int32)))])) _
    refine XS.istore X0.here hx rfl (hb hby at_18) rfl (l' := #[.val (.int p1), .val (.int p2), .val (.int p3), .val (.long p4), .second, .val (.int p5), .val (.int ww), .val (.long sS), .second, .val (.int (p5 &&& (3 : Int32))), .unset, .unset, .unset, .unset, .unset, .unset]) rfl ?_
    show Steps p.tables e below (s₁.setTop (mkF m 20 #[.val (.int p1), .val (.int p2), .val (.int p3), .val (.long p4), .second, .val (.int p5), .val (.int ww), .val (.long sS), .second, .val (.int (p5 &&& (3 : Int32))), .unset, .unset, .unset, .unset, .unset, .unset] [])) _
    exact k)
  obtain ⟨ee, bee, preJ⟩ : ∃ ee : Int32, (¬ ee < 0 ∧ ee < 2048) ∧ ∀ t, Steps p.tables e below (s₁.setTop (mkF m 73 #[.val (.int p1), .val (.int p2), .val (.int p3), .val (.long p4), .second, .val (.int p5), .val (.int ww), .val (.long sS), .second, .val (.int (p5 &&& (3 : Int32))), .val (.int ee), .unset, .unset, .unset, .unset, .unset] [])) t → Steps p.tables e below (s₁.setTop (entryFrame m #[(.int p1), (.int p2), (.int p3), (.long p4), (.int p5)] maxLocals)) t := by
    have pre3 : ∀ t, Steps p.tables e below (s₁.setTop (mkF m 22 #[.val (.int p1), .val (.int p2), .val (.int p3), .val (.long p4), .second, .val (.int p5), .val (.int ww), .val (.long sS), .second, .val (.int (p5 &&& (3 : Int32))), .unset, .unset, .unset, .unset, .unset, .unset] [(.int (p5 &&& (3 : Int32)))])) t → Steps p.tables e below (s₁.setTop (entryFrame m #[(.int p1), (.int p2), (.int p3), (.long p4), (.int p5)] maxLocals)) t := fun t k => pre2 t (by
      show Steps p.tables e below (s₁.setTop (mkF m 20 #[.val (.int p1), .val (.int p2), .val (.int p3), .val (.long p4), .second, .val (.int p5), .val (.int ww), .val (.long sS), .second, .val (.int (p5 &&& (3 : Int32))), .unset, .unset, .unset, .unset, .unset, .unset] [])) _
      refine XS.iload X0.here hx rfl (hb hby at_20) rfl ?_
      show Steps p.tables e below (s₁.setTop (mkF m 22 #[.val (.int p1), .val (.int p2), .val (.int p3), .val (.long p4), .second, .val (.int p5), .val (.int ww), .val (.long sS), .second, .val (.int (p5 &&& (3 : Int32))), .unset, .unset, .unset, .unset, .unset, .unset] [(.int (p5 &&& (3 : Int32)))])) _
      exact k)
    by_cases hm0 : (p5 &&& (3 : Int32)) = 0
    · skip
      have pre4 : ∀ t, Steps p.tables e below (s₁.setTop (mkF m 73 #[.val (.int p1), .val (.int p2), .val (.int p3), .val (.long p4), .second, .val (.int p5), .val (.int ww), .val (.long sS), .second, .val (.int (p5 &&& (3 : Int32))), .val (.int (p3 &&& (2047 : Int32))), .unset, .unset, .unset, .unset, .unset] [])) t → Steps p.tables e below (s₁.setTop (entryFrame m #[(.int p1), (.int p2), (.int p3), (.long p4), (.int p5)] maxLocals)) t := fun t k => pre3 t (by
        show Steps p.tables e below (s₁.setTop (mkF m 22 #[.val (.int p1), .val (.int p2), .val (.int p3), .val (.long p4), .second, .val (.int p5), .val (.int ww), .val (.long sS), .second, .val (.int (p5 &&& (3 : Int32))), .unset, .unset, .unset, .unset, .unset, .unset] [(.int (p5 &&& (3 : Int32)))])) _
        refine XS.ifNo X0.here hx rfl (hb hby at_22) rfl (XT.i0_ne_f hm0) ?_
        show Steps p.tables e below (s₁.setTop (mkF m 25 #[.val (.int p1), .val (.int p2), .val (.int p3), .val (.long p4), .second, .val (.int p5), .val (.int ww), .val (.long sS), .second, .val (.int (p5 &&& (3 : Int32))), .unset, .unset, .unset, .unset, .unset, .unset] [])) _
        refine XS.iloadN X0.here hx rfl (hb hby at_25) rfl ?_
        show Steps p.tables e below (s₁.setTop (mkF m 26 #[.val (.int p1), .val (.int p2), .val (.int p3), .val (.long p4), .second, .val (.int p5), .val (.int ww), .val (.long sS), .second, .val (.int (p5 &&& (3 : Int32))), .unset, .unset, .unset, .unset, .unset, .unset] [(.int p3)])) _
        refine XS.sipush X0.here hx rfl (hb hby at_26) ?_
        show Steps p.tables e below (s₁.setTop (mkF m 29 #[.val (.int p1), .val (.int p2), .val (.int p3), .val (.long p4), .second, .val (.int p5), .val (.int ww), .val (.long sS), .second, .val (.int (p5 &&& (3 : Int32))), .unset, .unset, .unset, .unset, .unset, .unset] [(.int (2047 : Int32)), (.int p3)])) _
        refine XS.iand X0.here hx rfl (hb hby at_29) rfl ?_
        show Steps p.tables e below (s₁.setTop (mkF m 30 #[.val (.int p1), .val (.int p2), .val (.int p3), .val (.long p4), .second, .val (.int p5), .val (.int ww), .val (.long sS), .second, .val (.int (p5 &&& (3 : Int32))), .unset, .unset, .unset, .unset, .unset, .unset] [(.int (p3 &&& (2047 : Int32)))])) _
        refine XS.istore X0.here hx rfl (hb hby at_30) rfl (l' := #[.val (.int p1), .val (.int p2), .val (.int p3), .val (.long p4), .second, .val (.int p5), .val (.int ww), .val (.long sS), .second, .val (.int (p5 &&& (3 : Int32))), .val (.int (p3 &&& (2047 : Int32))), .unset, .unset, .unset, .unset, .unset]) rfl ?_
        show Steps p.tables e below (s₁.setTop (mkF m 32 #[.val (.int p1), .val (.int p2), .val (.int p3), .val (.long p4), .second, .val (.int p5), .val (.int ww), .val (.long sS), .second, .val (.int (p5 &&& (3 : Int32))), .val (.int (p3 &&& (2047 : Int32))), .unset, .unset, .unset, .unset, .unset] [])) _
        refine XS.goto X0.here hx rfl (pc0 := 32) (pc' := 73) rfl (hb hby at_32) (by decide) (by decide) ?_
        show Steps p.tables e below (s₁.setTop (mkF m 73 #[.val (.int p1), .val (.int p2), .val (.int p3), .val (.long p4), .second, .val (.int p5), .val (.int ww), .val (.long sS), .second, .val (.int (p5 &&& (3 : Int32))), .val (.int (p3 &&& (2047 : Int32))), .unset, .unset, .unset, .unset, .unset] [])) _
        exact k)
      exact ⟨_, own_e1 p3, pre4⟩
    · skip
      have pre4 : ∀ t, Steps p.tables e below (s₁.setTop (mkF m 38 #[.val (.int p1), .val (.int p2), .val (.int p3), .val (.long p4), .second, .val (.int p5), .val (.int ww), .val (.long sS), .second, .val (.int (p5 &&& (3 : Int32))), .unset, .unset, .unset, .unset, .unset, .unset] [(.int (2 : Int32)), (.int (p5 &&& (3 : Int32)))])) t → Steps p.tables e below (s₁.setTop (entryFrame m #[(.int p1), (.int p2), (.int p3), (.long p4), (.int p5)] maxLocals)) t := fun t k => pre3 t (by
        show Steps p.tables e below (s₁.setTop (mkF m 22 #[.val (.int p1), .val (.int p2), .val (.int p3), .val (.long p4), .second, .val (.int p5), .val (.int ww), .val (.long sS), .second, .val (.int (p5 &&& (3 : Int32))), .unset, .unset, .unset, .unset, .unset, .unset] [(.int (p5 &&& (3 : Int32)))])) _
        refine XS.ifYes X0.here hx rfl (pc0 := 22) (pc' := 35) rfl (hb hby at_22) rfl (XT.i0_ne_t hm0) (by decide) (by decide) ?_
        show Steps p.tables e below (s₁.setTop (mkF m 35 #[.val (.int p1), .val (.int p2), .val (.int p3), .val (.long p4), .second, .val (.int p5), .val (.int ww), .val (.long sS), .second, .val (.int (p5 &&& (3 : Int32))), .unset, .unset, .unset, .unset, .unset, .unset] [])) _
        refine XS.iload X0.here hx rfl (hb hby at_35) rfl ?_
        show Steps p.tables e below (s₁.setTop (mkF m 37 #[.val (.int p1), .val (.int p2), .val (.int p3), .val (.long p4), .second, .val (.int p5), .val (.int ww), .val (.long sS), .second, .val (.int (p5 &&& (3 : Int32))), .unset, .unset, .unset, .unset, .unset, .unset] [(.int (p5 &&& (3 : Int32)))])) _
        refine XS.iconst X0.here hx rfl (hb hby at_37) ?_
        show Steps p.tables e below (s₁.setTop (mkF m 38 #[.val (.int p1), .val (.int p2), .val (.int p3), .val (.long p4), .second, .val (.int p5), .val (.int ww), .val (.long sS), .second, .val (.int (p5 &&& (3 : Int32))), .unset, .unset, .unset, .unset, .unset, .unset] [(.int (2 : Int32)), (.int (p5 &&& (3 : Int32)))])) _
        exact k)
      by_cases hm2 : (p5 &&& (3 : Int32)) = 2
      · skip
        have pre5 : ∀ t, Steps p.tables e below (s₁.setTop (mkF m 44 #[.val (.int p1), .val (.int p2), .val (.int p3), .val (.long p4), .second, .val (.int p5), .val (.int ww), .val (.long sS), .second, .val (.int (p5 &&& (3 : Int32))), .unset, .unset, .unset, .unset, .unset, .unset] [(.int (p3 &&& (1 : Int32)))])) t → Steps p.tables e below (s₁.setTop (entryFrame m #[(.int p1), (.int p2), (.int p3), (.long p4), (.int p5)] maxLocals)) t := fun t k => pre4 t (by
          show Steps p.tables e below (s₁.setTop (mkF m 38 #[.val (.int p1), .val (.int p2), .val (.int p3), .val (.long p4), .second, .val (.int p5), .val (.int ww), .val (.long sS), .second, .val (.int (p5 &&& (3 : Int32))), .unset, .unset, .unset, .unset, .unset, .unset] [(.int (2 : Int32)), (.int (p5 &&& (3 : Int32)))])) _
          refine XS.icmpNo X0.here hx rfl (hb hby at_38) rfl (XT.ii_ne_f hm2) ?_
          show Steps p.tables e below (s₁.setTop (mkF m 41 #[.val (.int p1), .val (.int p2), .val (.int p3), .val (.long p4), .second, .val (.int p5), .val (.int ww), .val (.long sS), .second, .val (.int (p5 &&& (3 : Int32))), .unset, .unset, .unset, .unset, .unset, .unset] [])) _
          refine XS.iloadN X0.here hx rfl (hb hby at_41) rfl ?_
          show Steps p.tables e below (s₁.setTop (mkF m 42 #[.val (.int p1), .val (.int p2), .val (.int p3), .val (.long p4), .second, .val (.int p5), .val (.int ww), .val (.long sS), .second, .val (.int (p5 &&& (3 : Int32))), .unset, .unset, .unset, .unset, .unset, .unset] [(.int p3)])) _
          refine XS.iconst X0.here hx rfl (hb hby at_42) ?_
          show Steps p.tables e below (s₁.setTop (mkF m 43 #[.val (.int p1), .val (.int p2), .val (.int p3), .val (.long p4), .second, .val (.int p5), .val (.int ww), .val (.long sS), .second, .val (.int (p5 &&& (3 : Int32))), .unset, .unset, .unset, .unset, .unset, .unset] [(.int (1 : Int32)), (.int p3)])) _
          refine XS.iand X0.here hx rfl (hb hby at_43) rfl ?_
          show Steps p.tables e below (s₁.setTop (mkF m 44 #[.val (.int p1), .val (.int p2), .val (.int p3), .val (.long p4), .second, .val (.int p5), .val (.int ww), .val (.long sS), .second, .val (.int (p5 &&& (3 : Int32))), .unset, .unset, .unset, .unset, .unset, .unset] [(.int (p3 &&& (1 : Int32)))])) _
          exact k)
        by_cases hm3 : (p3 &&& (1 : Int32)) = 0
        · skip
          have pre6 : ∀ t, Steps p.tables e below (s₁.setTop (mkF m 73 #[.val (.int p1), .val (.int p2), .val (.int p3), .val (.long p4), .second, .val (.int p5), .val (.int ww), .val (.long sS), .second, .val (.int (p5 &&& (3 : Int32))), .val (.int (0 : Int32)), .unset, .unset, .unset, .unset, .unset] [])) t → Steps p.tables e below (s₁.setTop (entryFrame m #[(.int p1), (.int p2), (.int p3), (.long p4), (.int p5)] maxLocals)) t := fun t k => pre5 t (by
            show Steps p.tables e below (s₁.setTop (mkF m 44 #[.val (.int p1), .val (.int p2), .val (.int p3), .val (.long p4), .second, .val (.int p5), .val (.int ww), .val (.long sS), .second, .val (.int (p5 &&& (3 : Int32))), .unset, .unset, .unset, .unset, .unset, .unset] [(.int (p3 &&& (1 : Int32)))])) _
            refine XS.ifNo X0.here hx rfl (hb hby at_44) rfl (XT.i0_ne_f hm3) ?_
            show Steps p.tables e below (s₁.setTop (mkF m 47 #[.val (.int p1), .val (.int p2), .val (.int p3), .val (.long p4), .second, .val (.int p5), .val (.int ww), .val (.long sS), .second, .val (.int (p5 &&& (3 : Int32))), .unset, .unset, .unset, .unset, .unset, .unset] [])) _
            refine XS.iconst X0.here hx rfl (hb hby at_47) ?_
            show Steps p.tables e below (s₁.setTop (mkF m 48 #[.val (.int p1), .val (.int p2), .val (.int p3), .val (.long p4), .second, .val (.int p5), .val (.int ww), .val (.long sS), .second, .val (.int (p5 &&& (3 : Int32))), .unset, .unset, .unset, .unset, .unset, .unset] [(.int (0 : Int32))])) _
            refine XS.goto X0.here hx rfl (pc0 := 48) (pc' := 54) rfl (hb hby at_48) (by decide) (by decide) ?_
            show Steps p.tables e below (s₁.setTop (mkF m 54 #[.val (.int p1), .val (.int p2), .val (.int p3), .val (.long p4), .second, .val (.int p5), .val (.int ww), .val (.long sS), .second, .val (.int (p5 &&& (3 : Int32))), .unset, .unset, .unset, .unset, .unset, .unset] [(.int (0 : Int32))])) _
            refine XS.istore X0.here hx rfl (hb hby at_54) rfl (l' := #[.val (.int p1), .val (.int p2), .val (.int p3), .val (.long p4), .second, .val (.int p5), .val (.int ww), .val (.long sS), .second, .val (.int (p5 &&& (3 : Int32))), .val (.int (0 : Int32)), .unset, .unset, .unset, .unset, .unset]) rfl ?_
            show Steps p.tables e below (s₁.setTop (mkF m 56 #[.val (.int p1), .val (.int p2), .val (.int p3), .val (.long p4), .second, .val (.int p5), .val (.int ww), .val (.long sS), .second, .val (.int (p5 &&& (3 : Int32))), .val (.int (0 : Int32)), .unset, .unset, .unset, .unset, .unset] [])) _
            refine XS.goto X0.here hx rfl (pc0 := 56) (pc' := 73) rfl (hb hby at_56) (by decide) (by decide) ?_
            show Steps p.tables e below (s₁.setTop (mkF m 73 #[.val (.int p1), .val (.int p2), .val (.int p3), .val (.long p4), .second, .val (.int p5), .val (.int ww), .val (.long sS), .second, .val (.int (p5 &&& (3 : Int32))), .val (.int (0 : Int32)), .unset, .unset, .unset, .unset, .unset] [])) _
            exact k)
          exact ⟨_, by decide, pre6⟩
        · skip
          have pre6 : ∀ t, Steps p.tables e below (s₁.setTop (mkF m 73 #[.val (.int p1), .val (.int p2), .val (.int p3), .val (.long p4), .second, .val (.int p5), .val (.int ww), .val (.long sS), .second, .val (.int (p5 &&& (3 : Int32))), .val (.int (2047 : Int32)), .unset, .unset, .unset, .unset, .unset] [])) t → Steps p.tables e below (s₁.setTop (entryFrame m #[(.int p1), (.int p2), (.int p3), (.long p4), (.int p5)] maxLocals)) t := fun t k => pre5 t (by
            show Steps p.tables e below (s₁.setTop (mkF m 44 #[.val (.int p1), .val (.int p2), .val (.int p3), .val (.long p4), .second, .val (.int p5), .val (.int ww), .val (.long sS), .second, .val (.int (p5 &&& (3 : Int32))), .unset, .unset, .unset, .unset, .unset, .unset] [(.int (p3 &&& (1 : Int32)))])) _
            refine XS.ifYes X0.here hx rfl (pc0 := 44) (pc' := 51) rfl (hb hby at_44) rfl (XT.i0_ne_t hm3) (by decide) (by decide) ?_
            show Steps p.tables e below (s₁.setTop (mkF m 51 #[.val (.int p1), .val (.int p2), .val (.int p3), .val (.long p4), .second, .val (.int p5), .val (.int ww), .val (.long sS), .second, .val (.int (p5 &&& (3 : Int32))), .unset, .unset, .unset, .unset, .unset, .unset] [])) _
            refine XS.sipush X0.here hx rfl (hb hby at_51) ?_
            show Steps p.tables e below (s₁.setTop (mkF m 54 #[.val (.int p1), .val (.int p2), .val (.int p3), .val (.long p4), .second, .val (.int p5), .val (.int ww), .val (.long sS), .second, .val (.int (p5 &&& (3 : Int32))), .unset, .unset, .unset, .unset, .unset, .unset] [(.int (2047 : Int32))])) _
            refine XS.istore X0.here hx rfl (hb hby at_54) rfl (l' := #[.val (.int p1), .val (.int p2), .val (.int p3), .val (.long p4), .second, .val (.int p5), .val (.int ww), .val (.long sS), .second, .val (.int (p5 &&& (3 : Int32))), .val (.int (2047 : Int32)), .unset, .unset, .unset, .unset, .unset]) rfl ?_
            show Steps p.tables e below (s₁.setTop (mkF m 56 #[.val (.int p1), .val (.int p2), .val (.int p3), .val (.long p4), .second, .val (.int p5), .val (.int ww), .val (.long sS), .second, .val (.int (p5 &&& (3 : Int32))), .val (.int (2047 : Int32)), .unset, .unset, .unset, .unset, .unset] [])) _
            refine XS.goto X0.here hx rfl (pc0 := 56) (pc' := 73) rfl (hb hby at_56) (by decide) (by decide) ?_
            show Steps p.tables e below (s₁.setTop (mkF m 73 #[.val (.int p1), .val (.int p2), .val (.int p3), .val (.long p4), .second, .val (.int p5), .val (.int ww), .val (.long sS), .second, .val (.int (p5 &&& (3 : Int32))), .val (.int (2047 : Int32)), .unset, .unset, .unset, .unset, .unset] [])) _
            exact k)
          exact ⟨_, by decide, pre6⟩
      · skip
        have pre5 : ∀ t, Steps p.tables e below (s₁.setTop (mkF m 73 #[.val (.int p1), .val (.int p2), .val (.int p3), .val (.long p4), .second, .val (.int p5), .val (.int ww), .val (.long sS), .second, .val (.int (p5 &&& (3 : Int32))), .val (.int ((860 : Int32) + ((p3 &&& (2147483647 : Int32)) % (301 : Int32)))), .unset, .unset, .unset, .unset, .unset] [])) t → Steps p.tables e below (s₁.setTop (entryFrame m #[(.int p1), (.int p2), (.int p3), (.long p4), (.int p5)] maxLocals)) t := fun t k => pre4 t (by
          show Steps p.tables e below (s₁.setTop (mkF m 38 #[.val (.int p1), .val (.int p2), .val (.int p3), .val (.long p4), .second, .val (.int p5), .val (.int ww), .val (.long sS), .second, .val (.int (p5 &&& (3 : Int32))), .unset, .unset, .unset, .unset, .unset, .unset] [(.int (2 : Int32)), (.int (p5 &&& (3 : Int32)))])) _
          refine XS.icmpYes X0.here hx rfl (pc0 := 38) (pc' := 59) rfl (hb hby at_38) rfl (XT.ii_ne_t hm2) (by decide) (by decide) ?_
          show Steps p.tables e below (s₁.setTop (mkF m 59 #[.val (.int p1), .val (.int p2), .val (.int p3), .val (.long p4), .second, .val (.int p5), .val (.int ww), .val (.long sS), .second, .val (.int (p5 &&& (3 : Int32))), .unset, .unset, .unset, .unset, .unset, .unset] [])) _
          refine XS.sipush X0.here hx rfl (hb hby at_59) ?_
          show Steps p.tables e below (s₁.setTop (mkF m 62 #[.val (.int p1), .val (.int p2), .val (.int p3), .val (.long p4), .second, .val (.int p5), .val (.int ww), .val (.long sS), .second, .val (.int (p5 &&& (3 : Int32))), .unset, .unset, .unset, .unset, .unset, .unset] [(.int (860 : Int32))])) _
          refine XS.iloadN X0.here hx rfl (hb hby at_62) rfl ?_
          show Steps p.tables e below (s₁.setTop (mkF m 63 #[.val (.int p1), .val (.int p2), .val (.int p3), .val (.long p4), .second, .val (.int p5), .val (.int ww), .val (.long sS), .second, .val (.int (p5 &&& (3 : Int32))), .unset, .unset, .unset, .unset, .unset, .unset] [(.int p3), (.int (860 : Int32))])) _
          refine X0.ldcI hx hown (mvT hZ (hw _ (List.mem_of_getElem? (i := 0) rfl))) rfl (hb hby at_63) ?_
          show Steps p.tables e below (s₁.setTop (mkF m 65 #[.val (.int p1), .val (.int p2), .val (.int p3), .val (.long p4), .second, .val (.int p5), .val (.int ww), .val (.long sS), .second, .val (.int (p5 &&& (3 : Int32))), .unset, .unset, .unset, .unset, .unset, .unset] [(.int (2147483647 : Int32)), (.int p3), (.int (860 : Int32))])) _
          refine XS.iand X0.here hx rfl (hb hby at_65) rfl ?_
          show Steps p.tables e below (s₁.setTop (mkF m 66 #[.val (.int p1), .val (.int p2), .val (.int p3), .val (.long p4), .second, .val (.int p5), .val (.int ww), .val (.long sS), .second, .val (.int (p5 &&& (3 : Int32))), .unset, .unset, .unset, .unset, .unset, .unset] [(.int (p3 &&& (2147483647 : Int32))), (.int (860 : Int32))])) _
          refine XS.sipush X0.here hx rfl (hb hby at_66) ?_
          show Steps p.tables e below (s₁.setTop (mkF m 69 #[.val (.int p1), .val (.int p2), .val (.int p3), .val (.long p4), .second, .val (.int p5), .val (.int ww), .val (.long sS), .second, .val (.int (p5 &&& (3 : Int32))), .unset, .unset, .unset, .unset, .unset, .unset] [(.int (301 : Int32)), (.int (p3 &&& (2147483647 : Int32))), (.int (860 : Int32))])) _
          refine XS.irem X0.here hx rfl (hb hby at_69) rfl (by decide) ?_
          show Steps p.tables e below (s₁.setTop (mkF m 70 #[.val (.int p1), .val (.int p2), .val (.int p3), .val (.long p4), .second, .val (.int p5), .val (.int ww), .val (.long sS), .second, .val (.int (p5 &&& (3 : Int32))), .unset, .unset, .unset, .unset, .unset, .unset] [(.int ((p3 &&& (2147483647 : Int32)) - ((p3 &&& (2147483647 : Int32)) / (301 : Int32)) * (301 : Int32))), (.int (860 : Int32))])) _
          rw [own_irem]
          show Steps p.tables e below (s₁.setTop (mkF m 70 #[.val (.int p1), .val (.int p2), .val (.int p3), .val (.long p4), .second, .val (.int p5), .val (.int ww), .val (.long sS), .second, .val (.int (p5 &&& (3 : Int32))), .unset, .unset, .unset, .unset, .unset, .unset] [(.int ((p3 &&& (2147483647 : Int32)) % (301 : Int32))), (.int (860 : Int32))])) _
          refine XS.iadd X0.here hx rfl (hb hby at_70) rfl ?_
          show Steps p.tables e below (s₁.setTop (mkF m 71 #[.val (.int p1), .val (.int p2), .val (.int p3), .val (.long p4), .second, .val (.int p5), .val (.int ww), .val (.long sS), .second, .val (.int (p5 &&& (3 : Int32))), .unset, .unset, .unset, .unset, .unset, .unset] [(.int ((860 : Int32) + ((p3 &&& (2147483647 : Int32)) % (301 : Int32))))])) _
          refine XS.istore X0.here hx rfl (hb hby at_71) rfl (l' := #[.val (.int p1), .val (.int p2), .val (.int p3), .val (.long p4), .second, .val (.int p5), .val (.int ww), .val (.long sS), .second, .val (.int (p5 &&& (3 : Int32))), .val (.int ((860 : Int32) + ((p3 &&& (2147483647 : Int32)) % (301 : Int32)))), .unset, .unset, .unset, .unset, .unset]) rfl ?_
          show Steps p.tables e below (s₁.setTop (mkF m 73 #[.val (.int p1), .val (.int p2), .val (.int p3), .val (.long p4), .second, .val (.int p5), .val (.int ww), .val (.long sS), .second, .val (.int (p5 &&& (3 : Int32))), .val (.int ((860 : Int32) + ((p3 &&& (2147483647 : Int32)) % (301 : Int32)))), .unset, .unset, .unset, .unset, .unset] [])) _
          exact k)
        exact ⟨_, own_e3 p3, pre5⟩
  obtain ⟨ff, hff, bff⟩ : ∃ z : Int64, (p4 &&& (4503599627370495 : Int64)) = z ∧ (0 ≤ z.toInt ∧ z.toInt < 4503599627370496) := ⟨_, rfl, own_f52 p4⟩
  obtain ⟨bits, hbits⟩ : ∃ z : Int64, (((sS <<< ((63 : Int32).toInt64 &&& 63)) ||| ((ee.toInt64) <<< ((52 : Int32).toInt64 &&& 63))) ||| ff) = z := ⟨_, rfl⟩
  have pre3 : ∀ t, Steps p.tables e below (s₁.setTop (mkF m 99 #[.val (.int p1), .val (.int p2), .val (.int p3), .val (.long p4), .second, .val (.int p5), .val (.int ww), .val (.long sS), .second, .val (.int (p5 &&& (3 : Int32))), .val (.int ee), .val (.long ff), .second, .val (.long bits), .second, .unset] [(.int ww)])) t → Steps p.tables e below (s₁.setTop (entryFrame m #[(.int p1), (.int p2), (.int p3), (.long p4), (.int p5)] maxLocals)) t := fun t k => preJ t (by
    show Steps p.tables e below (s₁.setTop (mkF m 73 #[.val (.int p1), .val (.int p2), .val (.int p3), .val (.long p4), .second, .val (.int p5), .val (.int ww), .val (.long sS), .second, .val (.int (p5 &&& (3 : Int32))), .val (.int ee), .unset, .unset, .unset, .unset, .unset] [])) _
    refine XT.lloadN X0.here hx rfl (hb hby at_73) rfl ?_
    show Steps p.tables e below (s₁.setTop (mkF m 74 #[.val (.int p1), .val (.int p2), .val (.int p3), .val (.long p4), .second, .val (.int p5), .val (.int ww), .val (.long sS), .second, .val (.int (p5 &&& (3 : Int32))), .val (.int ee), .unset, .unset, .unset, .unset, .unset] [(.long p4)])) _
    refine X0.ldc2J hx hown (mvT hZ (hw _ (List.mem_of_getElem? (i := 1) rfl))) rfl (hb hby at_74) ?_
    show Steps p.tables e below (s₁.setTop (mkF m 77 #[.val (.int p1), .val (.int p2), .val (.int p3), .val (.long p4), .second, .val (.int p5), .val (.int ww), .val (.long sS), .second, .val (.int (p5 &&& (3 : Int32))), .val (.int ee), .unset, .unset, .unset, .unset, .unset] [(.long (4503599627370495 : Int64)), (.long p4)])) _
    refine XT.land X0.here hx rfl (hb hby at_77) rfl ?_
    show Steps p.tables e below (s₁.setTop (mkF m 78 #[.val (.int p1), .val (.int p2), .val (.int p3), .val (.long p4), .second, .val (.int p5), .val (.int ww), .val (.long sS), .second, .val (.int (p5 &&& (3 : Int32))), .val (.int ee), .unset, .unset, .unset, .unset, .unset] [(.long (p4 &&& (4503599627370495 : Int64)))])) _
    rw [hff]
    show Steps p.tables e below (s₁.setTop (mkF m 78 #[.val (.int p1), .val (.int p2), .val (.int p3), .val (.long p4), .second, .val (.int p5), .val (.int ww), .val (.long sS), .second, .val (.int (p5 &&& (3 : Int32))), .val (.int ee), .unset, .unset, .unset, .unset, .unset] [(.long ff)])) _
    refine XT.lstore X0.here hx rfl (hb hby at_78) rfl (l' := #[.val (.int p1), .val (.int p2), .val (.int p3), .val (.long p4), .second, .val (.int p5), .val (.int ww), .val (.long sS), .second, .val (.int (p5 &&& (3 : Int32))), .val (.int ee), .val (.long ff), .second, .unset, .unset, .unset]) rfl ?_
    show Steps p.tables e below (s₁.setTop (mkF m 80 #[.val (.int p1), .val (.int p2), .val (.int p3), .val (.long p4), .second, .val (.int p5), .val (.int ww), .val (.long sS), .second, .val (.int (p5 &&& (3 : Int32))), .val (.int ee), .val (.long ff), .second, .unset, .unset, .unset] [])) _
    refine XT.lload X0.here hx rfl (hb hby at_80) rfl ?_
    show Steps p.tables e below (s₁.setTop (mkF m 82 #[.val (.int p1), .val (.int p2), .val (.int p3), .val (.long p4), .second, .val (.int p5), .val (.int ww), .val (.long sS), .second, .val (.int (p5 &&& (3 : Int32))), .val (.int ee), .val (.long ff), .second, .unset, .unset, .unset] [(.long sS)])) _
    refine XS.bipush X0.here hx rfl (hb hby at_82) ?_
    show Steps p.tables e below (s₁.setTop (mkF m 84 #[.val (.int p1), .val (.int p2), .val (.int p3), .val (.long p4), .second, .val (.int p5), .val (.int ww), .val (.long sS), .second, .val (.int (p5 &&& (3 : Int32))), .val (.int ee), .val (.long ff), .second, .unset, .unset, .unset] [(.int (63 : Int32)), (.long sS)])) _
    refine XT.lshl X0.here hx rfl (hb hby at_84) rfl ?_
    show Steps p.tables e below (s₁.setTop (mkF m 85 #[.val (.int p1), .val (.int p2), .val (.int p3), .val (.long p4), .second, .val (.int p5), .val (.int ww), .val (.long sS), .second, .val (.int (p5 &&& (3 : Int32))), .val (.int ee), .val (.long ff), .second, .unset, .unset, .unset] [(.long (sS <<< ((63 : Int32).toInt64 &&& 63)))])) _
    refine XS.iload X0.here hx rfl (hb hby at_85) rfl ?_
    show Steps p.tables e below (s₁.setTop (mkF m 87 #[.val (.int p1), .val (.int p2), .val (.int p3), .val (.long p4), .second, .val (.int p5), .val (.int ww), .val (.long sS), .second, .val (.int (p5 &&& (3 : Int32))), .val (.int ee), .val (.long ff), .second, .unset, .unset, .unset] [(.int ee), (.long (sS <<< ((63 : Int32).toInt64 &&& 63)))])) _
    refine XT.i2l X0.here hx rfl (hb hby at_87) rfl ?_
    show Steps p.tables e below (s₁.setTop (mkF m 88 #[.val (.int p1), .val (.int p2), .val (.int p3), .val (.long p4), .second, .val (.int p5), .val (.int ww), .val (.long sS), .second, .val (.int (p5 &&& (3 : Int32))), .val (.int ee), .val (.long ff), .second, .unset, .unset, .unset] [(.long (ee.toInt64)), (.long (sS <<< ((63 : Int32).toInt64 &&& 63)))])) _
    refine XS.bipush X0.here hx rfl (hb hby at_88) ?_
    show Steps p.tables e below (s₁.setTop (mkF m 90 #[.val (.int p1), .val (.int p2), .val (.int p3), .val (.long p4), .second, .val (.int p5), .val (.int ww), .val (.long sS), .second, .val (.int (p5 &&& (3 : Int32))), .val (.int ee), .val (.long ff), .second, .unset, .unset, .unset] [(.int (52 : Int32)), (.long (ee.toInt64)), (.long (sS <<< ((63 : Int32).toInt64 &&& 63)))])) _
    refine XT.lshl X0.here hx rfl (hb hby at_90) rfl ?_
    show Steps p.tables e below (s₁.setTop (mkF m 91 #[.val (.int p1), .val (.int p2), .val (.int p3), .val (.long p4), .second, .val (.int p5), .val (.int ww), .val (.long sS), .second, .val (.int (p5 &&& (3 : Int32))), .val (.int ee), .val (.long ff), .second, .unset, .unset, .unset] [(.long ((ee.toInt64) <<< ((52 : Int32).toInt64 &&& 63))), (.long (sS <<< ((63 : Int32).toInt64 &&& 63)))])) _
    refine XT.lor X0.here hx rfl (hb hby at_91) rfl ?_
    show Steps p.tables e below (s₁.setTop (mkF m 92 #[.val (.int p1), .val (.int p2), .val (.int p3), .val (.long p4), .second, .val (.int p5), .val (.int ww), .val (.long sS), .second, .val (.int (p5 &&& (3 : Int32))), .val (.int ee), .val (.long ff), .second, .unset, .unset, .unset] [(.long ((sS <<< ((63 : Int32).toInt64 &&& 63)) ||| ((ee.toInt64) <<< ((52 : Int32).toInt64 &&& 63))))])) _
    refine XT.lload X0.here hx rfl (hb hby at_92) rfl ?_
    show Steps p.tables e below (s₁.setTop (mkF m 94 #[.val (.int p1), .val (.int p2), .val (.int p3), .val (.long p4), .second, .val (.int p5), .val (.int ww), .val (.long sS), .second, .val (.int (p5 &&& (3 : Int32))), .val (.int ee), .val (.long ff), .second, .unset, .unset, .unset] [(.long ff), (.long ((sS <<< ((63 : Int32).toInt64 &&& 63)) ||| ((ee.toInt64) <<< ((52 : Int32).toInt64 &&& 63))))])) _
    refine XT.lor X0.here hx rfl (hb hby at_94) rfl ?_
    show Steps p.tables e below (s₁.setTop (mkF m 95 #[.val (.int p1), .val (.int p2), .val (.int p3), .val (.long p4), .second, .val (.int p5), .val (.int ww), .val (.long sS), .second, .val (.int (p5 &&& (3 : Int32))), .val (.int ee), .val (.long ff), .second, .unset, .unset, .unset] [(.long (((sS <<< ((63 : Int32).toInt64 &&& 63)) ||| ((ee.toInt64) <<< ((52 : Int32).toInt64 &&& 63))) ||| ff))])) _
    rw [hbits]
    show Steps p.tables e below (s₁.setTop (mkF m 95 #[.val (.int p1), .val (.int p2), .val (.int p3), .val (.long p4), .second, .val (.int p5), .val (.int ww), .val (.long sS), .second, .val (.int (p5 &&& (3 : Int32))), .val (.int ee), .val (.long ff), .second, .unset, .unset, .unset] [(.long bits)])) _
    refine XT.lstore X0.here hx rfl (hb hby at_95) rfl (l' := #[.val (.int p1), .val (.int p2), .val (.int p3), .val (.long p4), .second, .val (.int p5), .val (.int ww), .val (.long sS), .second, .val (.int (p5 &&& (3 : Int32))), .val (.int ee), .val (.long ff), .second, .val (.long bits), .second, .unset]) rfl ?_
    show Steps p.tables e below (s₁.setTop (mkF m 97 #[.val (.int p1), .val (.int p2), .val (.int p3), .val (.long p4), .second, .val (.int p5), .val (.int ww), .val (.long sS), .second, .val (.int (p5 &&& (3 : Int32))), .val (.int ee), .val (.long ff), .second, .val (.long bits), .second, .unset] [])) _
    refine XS.iload X0.here hx rfl (hb hby at_97) rfl ?_
    show Steps p.tables e below (s₁.setTop (mkF m 99 #[.val (.int p1), .val (.int p2), .val (.int p3), .val (.long p4), .second, .val (.int p5), .val (.int ww), .val (.long sS), .second, .val (.int (p5 &&& (3 : Int32))), .val (.int ee), .val (.long ff), .second, .val (.long bits), .second, .unset] [(.int ww)])) _
    exact k)
  by_cases hq0 : ww = 0
  · skip
    have h2 : ¬ ww = 2 := by rw [hq0]; decide
    have pre4 : ∀ t, Steps p.tables e below (s₁.setTop (mkF m 102 #[.val (.int p1), .val (.int p2), .val (.int p3), .val (.long p4), .second, .val (.int p5), .val (.int ww), .val (.long sS), .second, .val (.int (p5 &&& (3 : Int32))), .val (.int ee), .val (.long ff), .second, .val (.long bits), .second, .unset] [])) t → Steps p.tables e below (s₁.setTop (entryFrame m #[(.int p1), (.int p2), (.int p3), (.long p4), (.int p5)] maxLocals)) t := fun t k => pre3 t (by
      show Steps p.tables e below (s₁.setTop (mkF m 99 #[.val (.int p1), .val (.int p2), .val (.int p3), .val (.long p4), .second, .val (.int p5), .val (.int ww), .val (.long sS), .second, .val (.int (p5 &&& (3 : Int32))), .val (.int ee), .val (.long ff), .second, .val (.long bits), .second, .unset] [(.int ww)])) _
      refine XS.ifNo X0.here hx rfl (hb hby at_99) rfl (XT.i0_ne_f hq0) ?_
      show Steps p.tables e below (s₁.setTop (mkF m 102 #[.val (.int p1), .val (.int p2), .val (.int p3), .val (.long p4), .second, .val (.int p5), .val (.int ww), .val (.long sS), .second, .val (.int (p5 &&& (3 : Int32))), .val (.int ee), .val (.long ff), .second, .val (.long bits), .second, .unset] [])) _
      exact k)
    obtain ⟨T5, X5, e5, st5⟩ := getS2 X0 hx hZ hown (host := "") (Or.inl (hw _ (List.mem_of_getElem? (i := 2) rfl))) Via.refl e0 SHALF (g := (mkF m 102 #[.val (.int p1), .val (.int p2), .val (.int p3), .val (.long p4), .second, .val (.int p5), .val (.int ww), .val (.long sS), .second, .val (.int (p5 &&& (3 : Int32))), .val (.int ee), .val (.long ff), .second, .val (.long bits), .second, .unset] [])) rfl (hb hby at_102)
    have pre6 : ∀ t, Steps p.tables e below (T5.setTop (mkF m 129 #[.val (.int p1), .val (.int p2), .val (.int p3), .val (.long p4), .second, .val (.int p5), .val (.int ww), .val (.long sS), .second, .val (.int (p5 &&& (3 : Int32))), .val (.int ee), .val (.long ff), .second, .val (.long bits), .second, .val (.ref aH)] [(.long bits), (.ref aH)])) t → Steps p.tables e below (s₁.setTop (entryFrame m #[(.int p1), (.int p2), (.int p3), (.long p4), (.int p5)] maxLocals)) t := fun t k => pre4 t (by
      show Steps p.tables e below (s₁.setTop (mkF m 102 #[.val (.int p1), .val (.int p2), .val (.int p3), .val (.long p4), .second, .val (.int p5), .val (.int ww), .val (.long sS), .second, .val (.int (p5 &&& (3 : Int32))), .val (.int ee), .val (.long ff), .second, .val (.long bits), .second, .unset] [])) _
      refine st5 _ ?_
      show Steps p.tables e below (T5.setTop (mkF m 105 #[.val (.int p1), .val (.int p2), .val (.int p3), .val (.long p4), .second, .val (.int p5), .val (.int ww), .val (.long sS), .second, .val (.int (p5 &&& (3 : Int32))), .val (.int ee), .val (.long ff), .second, .val (.long bits), .second, .unset] [(.ref aH)])) _
      refine XS.goto X5.here hx rfl (pc0 := 105) (pc' := 123) rfl (hb hby at_105) (by decide) (by decide) ?_
      show Steps p.tables e below (T5.setTop (mkF m 123 #[.val (.int p1), .val (.int p2), .val (.int p3), .val (.long p4), .second, .val (.int p5), .val (.int ww), .val (.long sS), .second, .val (.int (p5 &&& (3 : Int32))), .val (.int ee), .val (.long ff), .second, .val (.long bits), .second, .unset] [(.ref aH)])) _
      refine XS.astore X5.here hx rfl (hb hby at_123) rfl rfl (l' := #[.val (.int p1), .val (.int p2), .val (.int p3), .val (.long p4), .second, .val (.int p5), .val (.int ww), .val (.long sS), .second, .val (.int (p5 &&& (3 : Int32))), .val (.int ee), .val (.long ff), .second, .val (.long bits), .second, .val (.ref aH)]) rfl ?_
      show Steps p.tables e below (T5.setTop (mkF m 125 #[.val (.int p1), .val (.int p2), .val (.int p3), .val (.long p4), .second, .val (.int p5), .val (.int ww), .val (.long sS), .second, .val (.int (p5 &&& (3 : Int32))), .val (.int ee), .val (.long ff), .second, .val (.long bits), .second, .val (.ref aH)] [])) _
      refine XS.aload X5.here hx rfl (hb hby at_125) rfl rfl ?_
      show Steps p.tables e below (T5.setTop (mkF m 127 #[.val (.int p1), .val (.int p2), .val (.int p3), .val (.long p4), .second, .val (.int p5), .val (.int ww), .val (.long sS), .second, .val (.int (p5 &&& (3 : Int32))), .val (.int ee), .val (.long ff), .second, .val (.long bits), .second, .val (.ref aH)] [(.ref aH)])) _
      refine XT.lload X5.here hx rfl (hb hby at_127) rfl ?_
      show Steps p.tables e below (T5.setTop (mkF m 129 #[.val (.int p1), .val (.int p2), .val (.int p3), .val (.long p4), .second, .val (.int p5), .val (.int ww), .val (.long sS), .second, .val (.int (p5 &&& (3 : Int32))), .val (.int ee), .val (.long ff), .second, .val (.long bits), .second, .val (.ref aH)] [(.long bits), (.ref aH)])) _
      exact k)
    obtain ⟨cq7, kq7, q7a, q7b, q7c⟩ := isOf hZ e5 EHALF
    obtain ⟨_, _, ⟨T7, L7, kk7, nn7⟩, -, X7, ⟨Lc7, hQ7, l7, y7, z7⟩, st7⟩ := X5.virtualBack hx (y := (⟨"com/example/samewire/samewire/FloatFormat", "narrow", "(J)J"⟩ : MethodName)) (z := (⟨"com/example/samewire/samewire/FloatFormat", "narrow", "(J)J"⟩ : MethodName)) hown (mvT hZ (hw _ (List.mem_of_getElem? (i := 5) rfl))) (mvT hZ (hw _ (List.mem_of_getElem? (i := 6) rfl))) (notFace_of_selects (args := #[]) (mvT hZ (hw _ (List.mem_of_getElem? (i := 8) rfl)))) (mvT hZ (hw _ (List.mem_of_getElem? (i := 8) rfl))) (mvT hZ (hw _ (List.mem_of_getElem? (i := 7) rfl))) (by decide) (backOf (W := 0) (rm_na l Z a0 hw [] aH aD bits 15 15 42 31 10 h0 n0 Z0 SDOUBLE neH FHALF_ss FHALF_bi FHALF_dr FHALF_sp FHALF_fr) hZ (hw _ (List.mem_of_getElem? (i := 9) rfl)) (hw _ (List.mem_of_getElem? (i := 3) rfl)) (by decide) (by decide)) q7a q7c (g := (mkF m 129 #[.val (.int p1), .val (.int p2), .val (.int p3), .val (.long p4), .second, .val (.int p5), .val (.int ww), .val (.long sS), .second, .val (.int (p5 &&& (3 : Int32))), .val (.int ee), .val (.long ff), .second, .val (.long bits), .second, .val (.ref aH)] [(.long bits), (.ref aH)])) rfl (by rw [hml]; rfl) (Steps.refl _) (argsL := [(.long bits)]) (rest := []) (lenOf pd__J_J rfl) rfl (by show 2 * 0 + _ ≤ _; exact Nat.le_of_eq rfl) (hb hby at_129) (fun _ _ => ⟨rfl, e5, (by decide : 0 + 0 ≤ _), (by decide : 0 + 0 ≤ _)⟩)
    dsimp only [Pt.U, Pt.locs, Pt.cells, Pt.slots] at X7 l7 y7 z7 st7 hQ7
    subst l7 y7 z7
    obtain ⟨rfl, N7q, eq7⟩ := hQ7
    have N7 := Fr.app N0 N7q
    have pre8 : ∀ t, Steps p.tables e below (T7.setTop (mkF m 142 #[.val (.int p1), .val (.int p2), .val (.int p3), .val (.long p4), .second, .val (.int p5), .val (.int ww), .val (.long sS), .second, .val (.int (p5 &&& (3 : Int32))), .val (.int ee), .val (.long ff), .second, .val (.long bits), .second, .val (.ref aH)] [(.long bits), (.long ff), (.int ee), (.long sS), (.int ww), (.long (own_nar 15 15 42 31 10 (XT.ushrL bits (63 : Int32) <<< ((15 : Int32).toInt64 &&& 63)) ((XT.ushrL bits (52 : Int32)).toInt32 &&& (2047 : Int32)) (bits &&& (4503599627370495 : Int64))))])) t → Steps p.tables e below (s₁.setTop (entryFrame m #[(.int p1), (.int p2), (.int p3), (.long p4), (.int p5)] maxLocals)) t := fun t k => pre6 t (by
      show Steps p.tables e below (T5.setTop (mkF m 129 #[.val (.int p1), .val (.int p2), .val (.int p3), .val (.long p4), .second, .val (.int p5), .val (.int ww), .val (.long sS), .second, .val (.int (p5 &&& (3 : Int32))), .val (.int ee), .val (.long ff), .second, .val (.long bits), .second, .val (.ref aH)] [(.long bits), (.ref aH)])) _
      refine st7.trans ?_
      show Steps p.tables e below (T7.setTop (mkF m 132 #[.val (.int p1), .val (.int p2), .val (.int p3), .val (.long p4), .second, .val (.int p5), .val (.int ww), .val (.long sS), .second, .val (.int (p5 &&& (3 : Int32))), .val (.int ee), .val (.long ff), .second, .val (.long bits), .second, .val (.ref aH)] [(.long (own_nar 15 15 42 31 10 (XT.ushrL bits (63 : Int32) <<< ((15 : Int32).toInt64 &&& 63)) ((XT.ushrL bits (52 : Int32)).toInt32 &&& (2047 : Int32)) (bits &&& (4503599627370495 : Int64))))])) _
      refine XS.iload X7.here hx rfl (hb hby at_132) rfl ?_
      show Steps p.tables e below (T7.setTop (mkF m 134 #[.val (.int p1), .val (.int p2), .val (.int p3), .val (.long p4), .second, .val (.int p5), .val (.int ww), .val (.long sS), .second, .val (.int (p5 &&& (3 : Int32))), .val (.int ee), .val (.long ff), .second, .val (.long bits), .second, .val (.ref aH)] [(.int ww), (.long (own_nar 15 15 42 31 10 (XT.ushrL bits (63 : Int32) <<< ((15 : Int32).toInt64 &&& 63)) ((XT.ushrL bits (52 : Int32)).toInt32 &&& (2047 : Int32)) (bits &&& (4503599627370495 : Int64))))])) _
      refine XT.lload X7.here hx rfl (hb hby at_134) rfl ?_
      show Steps p.tables e below (T7.setTop (mkF m 136 #[.val (.int p1), .val (.int p2), .val (.int p3), .val (.long p4), .second, .val (.int p5), .val (.int ww), .val (.long sS), .second, .val (.int (p5 &&& (3 : Int32))), .val (.int ee), .val (.long ff), .second, .val (.long bits), .second, .val (.ref aH)] [(.long sS), (.int ww), (.long (own_nar 15 15 42 31 10 (XT.ushrL bits (63 : Int32) <<< ((15 : Int32).toInt64 &&& 63)) ((XT.ushrL bits (52 : Int32)).toInt32 &&& (2047 : Int32)) (bits &&& (4503599627370495 : Int64))))])) _
      refine XS.iload X7.here hx rfl (hb hby at_136) rfl ?_
      show Steps p.tables e below (T7.setTop (mkF m 138 #[.val (.int p1), .val (.int p2), .val (.int p3), .val (.long p4), .second, .val (.int p5), .val (.int ww), .val (.long sS), .second, .val (.int (p5 &&& (3 : Int32))), .val (.int ee), .val (.long ff), .second, .val (.long bits), .second, .val (.ref aH)] [(.int ee), (.long sS), (.int ww), (.long (own_nar 15 15 42 31 10 (XT.ushrL bits (63 : Int32) <<< ((15 : Int32).toInt64 &&& 63)) ((XT.ushrL bits (52 : Int32)).toInt32 &&& (2047 : Int32)) (bits &&& (4503599627370495 : Int64))))])) _
      refine XT.lload X7.here hx rfl (hb hby at_138) rfl ?_
      show Steps p.tables e below (T7.setTop (mkF m 140 #[.val (.int p1), .val (.int p2), .val (.int p3), .val (.long p4), .second, .val (.int p5), .val (.int ww), .val (.long sS), .second, .val (.int (p5 &&& (3 : Int32))), .val (.int ee), .val (.long ff), .second, .val (.long bits), .second, .val (.ref aH)] [(.long ff), (.int ee), (.long sS), (.int ww), (.long (own_nar 15 15 42 31 10 (XT.ushrL bits (63 : Int32) <<< ((15 : Int32).toInt64 &&& 63)) ((XT.ushrL bits (52 : Int32)).toInt32 &&& (2047 : Int32)) (bits &&& (4503599627370495 : Int64))))])) _
      refine XT.lload X7.here hx rfl (hb hby at_140) rfl ?_
      show Steps p.tables e below (T7.setTop (mkF m 142 #[.val (.int p1), .val (.int p2), .val (.int p3), .val (.long p4), .second, .val (.int p5), .val (.int ww), .val (.long sS), .second, .val (.int (p5 &&& (3 : Int32))), .val (.int ee), .val (.long ff), .second, .val (.long bits), .second, .val (.ref aH)] [(.long bits), (.long ff), (.int ee), (.long sS), (.int ww), (.long (own_nar 15 15 42 31 10 (XT.ushrL bits (63 : Int32) <<< ((15 : Int32).toInt64 &&& 63)) ((XT.ushrL bits (52 : Int32)).toInt32 &&& (2047 : Int32)) (bits &&& (4503599627370495 : Int64))))])) _
      exact k)
    obtain ⟨_, _, ⟨T9, L9, kk9, nn9⟩, -, X9, ⟨Lc9, hQ9, l9, y9, z9⟩, st9⟩ := Jvm.LawKit.callS X7 hx (y := (⟨"com/example/samewire/samewire/FloatFormatNarrowPinLaw", "expected", "(IJIJJ)J"⟩ : MethodName)) hown (mvT hZ (hw _ (List.mem_of_getElem? (i := 20) rfl))) (mvT hZ (hw _ (List.mem_of_getElem? (i := 21) rfl))) (mvT hZ (hw _ (List.mem_of_getElem? (i := 22) rfl))) (mvT hZ (hw _ (List.mem_of_getElem? (i := 23) rfl))) (by decide) (backOf (W := 2) (rm_ex0 l Z a0 hw [] ww sS ee ff bits h0 n0 Z0 h2 hq0) hZ (hw _ (List.mem_of_getElem? (i := 23) rfl)) (hw _ (List.mem_of_getElem? (i := 22) rfl)) (by decide) (by decide)) (g := (mkF m 142 #[.val (.int p1), .val (.int p2), .val (.int p3), .val (.long p4), .second, .val (.int p5), .val (.int ww), .val (.long sS), .second, .val (.int (p5 &&& (3 : Int32))), .val (.int ee), .val (.long ff), .second, .val (.long bits), .second, .val (.ref aH)] [(.long bits), (.long ff), (.int ee), (.long sS), (.int ww), (.long (own_nar 15 15 42 31 10 (XT.ushrL bits (63 : Int32) <<< ((15 : Int32).toInt64 &&& 63)) ((XT.ushrL bits (52 : Int32)).toInt32 &&& (2047 : Int32)) (bits &&& (4503599627370495 : Int64))))])) rfl (by rw [hml]; rfl) (argsL := [(.int ww), (.long sS), (.int ee), (.long ff), (.long bits)]) (rest := [(.long (own_nar 15 15 42 31 10 (XT.ushrL bits (63 : Int32) <<< ((15 : Int32).toInt64 &&& 63)) ((XT.ushrL bits (52 : Int32)).toInt32 &&& (2047 : Int32)) (bits &&& (4503599627370495 : Int64))))]) (lenOf pd__IJIJJ_J rfl) rfl (by show 2 * 0 + _ ≤ _; exact Nat.le_of_eq rfl) (hb hby at_142) (fun _ _ => ⟨rfl, eq7, (by decide : 0 + 0 ≤ _), (by decide : 0 + 0 ≤ _)⟩)
    dsimp only [Pt.U, Pt.locs, Pt.cells, Pt.slots] at X9 l9 y9 z9 st9 hQ9
    subst l9 y9 z9
    obtain ⟨rfl, N9q, eq9⟩ := hQ9
    have N9 := Fr.app N7 N9q
    have pre10 : ∀ t, Steps p.tables e below (T9.setTop (mkF m 154 #[.val (.int p1), .val (.int p2), .val (.int p3), .val (.long p4), .second, .val (.int p5), .val (.int ww), .val (.long sS), .second, .val (.int (p5 &&& (3 : Int32))), .val (.int ee), .val (.long ff), .second, .val (.long bits), .second, .val (.ref aH)] [(.int (1 : Int32))])) t → Steps p.tables e below (s₁.setTop (entryFrame m #[(.int p1), (.int p2), (.int p3), (.long p4), (.int p5)] maxLocals)) t := fun t k => pre8 t (by
      show Steps p.tables e below (T7.setTop (mkF m 142 #[.val (.int p1), .val (.int p2), .val (.int p3), .val (.long p4), .second, .val (.int p5), .val (.int ww), .val (.long sS), .second, .val (.int (p5 &&& (3 : Int32))), .val (.int ee), .val (.long ff), .second, .val (.long bits), .second, .val (.ref aH)] [(.long bits), (.long ff), (.int ee), (.long sS), (.int ww), (.long (own_nar 15 15 42 31 10 (XT.ushrL bits (63 : Int32) <<< ((15 : Int32).toInt64 &&& 63)) ((XT.ushrL bits (52 : Int32)).toInt32 &&& (2047 : Int32)) (bits &&& (4503599627370495 : Int64))))])) _
      refine st9 _ ?_
      show Steps p.tables e below (T9.setTop (mkF m 145 #[.val (.int p1), .val (.int p2), .val (.int p3), .val (.long p4), .second, .val (.int p5), .val (.int ww), .val (.long sS), .second, .val (.int (p5 &&& (3 : Int32))), .val (.int ee), .val (.long ff), .second, .val (.long bits), .second, .val (.ref aH)] [(.long (own_exp 42 1008 31 1039 1051 (sS <<< ((15 : Int32).toInt64 &&& 63)) ee ff (bits &&& (9223372036854775807 : Int64)))), (.long (own_nar 15 15 42 31 10 (XT.ushrL bits (63 : Int32) <<< ((15 : Int32).toInt64 &&& 63)) ((XT.ushrL bits (52 : Int32)).toInt32 &&& (2047 : Int32)) (bits &&& (4503599627370495 : Int64))))])) _
      refine XT.lcmp X9.here hx rfl (hb hby at_145) rfl ?_
      show Steps p.tables e below (T9.setTop (mkF m 146 #[.val (.int p1), .val (.int p2), .val (.int p3), .val (.long p4), .second, .val (.int p5), .val (.int ww), .val (.long sS), .second, .val (.int (p5 &&& (3 : Int32))), .val (.int ee), .val (.long ff), .second, .val (.long bits), .second, .val (.ref aH)] [(.int (XT.cmpL (own_nar 15 15 42 31 10 (XT.ushrL bits (63 : Int32) <<< ((15 : Int32).toInt64 &&& 63)) ((XT.ushrL bits (52 : Int32)).toInt32 &&& (2047 : Int32)) (bits &&& (4503599627370495 : Int64))) (own_exp 42 1008 31 1039 1051 (sS <<< ((15 : Int32).toInt64 &&& 63)) ee ff (bits &&& (9223372036854775807 : Int64)))))])) _
      refine XS.ifNo X9.here hx rfl (hb hby at_146) rfl (XT.ll_ne_f (own_same0 bsS bee bff hbits)) ?_
      show Steps p.tables e below (T9.setTop (mkF m 149 #[.val (.int p1), .val (.int p2), .val (.int p3), .val (.long p4), .second, .val (.int p5), .val (.int ww), .val (.long sS), .second, .val (.int (p5 &&& (3 : Int32))), .val (.int ee), .val (.long ff), .second, .val (.long bits), .second, .val (.ref aH)] [])) _
      refine XS.iconst X9.here hx rfl (hb hby at_149) ?_
      show Steps p.tables e below (T9.setTop (mkF m 150 #[.val (.int p1), .val (.int p2), .val (.int p3), .val (.long p4), .second, .val (.int p5), .val (.int ww), .val (.long sS), .second, .val (.int (p5 &&& (3 : Int32))), .val (.int ee), .val (.long ff), .second, .val (.long bits), .second, .val (.ref aH)] [(.int (1 : Int32))])) _
      refine XS.goto X9.here hx rfl (pc0 := 150) (pc' := 154) rfl (hb hby at_150) (by decide) (by decide) ?_
      show Steps p.tables e below (T9.setTop (mkF m 154 #[.val (.int p1), .val (.int p2), .val (.int p3), .val (.long p4), .second, .val (.int p5), .val (.int ww), .val (.long sS), .second, .val (.int (p5 &&& (3 : Int32))), .val (.int ee), .val (.long ff), .second, .val (.long bits), .second, .val (.ref aH)] [(.int (1 : Int32))])) _
      exact k)
    obtain ⟨fs, hr, hrun, hended, hW, hsame⟩ := X9.leave (v := some (.int (1 : Int32))) (fun h => by rw [Bd.returns] at h; cases h)
    refine ⟨_, _, pre10 _ ?_, hrun, hended, _, _, rfl, ?_, ⟨_, rfl⟩, hW, hsame.mono (by decide) (by decide)⟩
    · exact retN X9 hx (t := .boolean) Bd.returns (by simp) (hb hby at_154) hr
    · show Q_0 Z p1 p2 p3 p4 p5 aH aS aD h0 n0 _ T9.heap _
      rw [eq9]
      exact ⟨rfl, N9⟩
  · skip
    have pre4 : ∀ t, Steps p.tables e below (s₁.setTop (mkF m 111 #[.val (.int p1), .val (.int p2), .val (.int p3), .val (.long p4), .second, .val (.int p5), .val (.int ww), .val (.long sS), .second, .val (.int (p5 &&& (3 : Int32))), .val (.int ee), .val (.long ff), .second, .val (.long bits), .second, .unset] [(.int (1 : Int32)), (.int ww)])) t → Steps p.tables e below (s₁.setTop (entryFrame m #[(.int p1), (.int p2), (.int p3), (.long p4), (.int p5)] maxLocals)) t := fun t k => pre3 t (by
      show Steps p.tables e below (s₁.setTop (mkF m 99 #[.val (.int p1), .val (.int p2), .val (.int p3), .val (.long p4), .second, .val (.int p5), .val (.int ww), .val (.long sS), .second, .val (.int (p5 &&& (3 : Int32))), .val (.int ee), .val (.long ff), .second, .val (.long bits), .second, .unset] [(.int ww)])) _
      refine XS.ifYes X0.here hx rfl (pc0 := 99) (pc' := 108) rfl (hb hby at_99) rfl (XT.i0_ne_t hq0) (by decide) (by decide) ?_
      show Steps p.tables e below (s₁.setTop (mkF m 108 #[.val (.int p1), .val (.int p2), .val (.int p3), .val (.long p4), .second, .val (.int p5), .val (.int ww), .val (.long sS), .second, .val (.int (p5 &&& (3 : Int32))), .val (.int ee), .val (.long ff), .second, .val (.long bits), .second, .unset] [])) _
      refine XS.iload X0.here hx rfl (hb hby at_108) rfl ?_
      show Steps p.tables e below (s₁.setTop (mkF m 110 #[.val (.int p1), .val (.int p2), .val (.int p3), .val (.long p4), .second, .val (.int p5), .val (.int ww), .val (.long sS), .second, .val (.int (p5 &&& (3 : Int32))), .val (.int ee), .val (.long ff), .second, .val (.long bits), .second, .unset] [(.int ww)])) _
      refine XS.iconst X0.here hx rfl (hb hby at_110) ?_
      show Steps p.tables e below (s₁.setTop (mkF m 111 #[.val (.int p1), .val (.int p2), .val (.int p3), .val (.long p4), .second, .val (.int p5), .val (.int ww), .val (.long sS), .second, .val (.int (p5 &&& (3 : Int32))), .val (.int ee), .val (.long ff), .second, .val (.long bits), .second, .unset] [(.int (1 : Int32)), (.int ww)])) _
      exact k)
    by_cases h1 : ww = 1
    · skip
      have h2 : ¬ ww = 2 := by rw [h1]; decide
      have pre5 : ∀ t, Steps p.tables e below (s₁.setTop (mkF m 114 #[.val (.int p1), .val (.int p2), .val (.int p3), .val (.long p4), .second, .val (.int p5), .val (.int ww), .val (.long sS), .second, .val (.int (p5 &&& (3 : Int32))), .val (.int ee), .val (.long ff), .second, .val (.long bits), .second, .unset] [])) t → Steps p.tables e below (s₁.setTop (entryFrame m #[(.int p1), (.int p2), (.int p3), (.long p4), (.int p5)] maxLocals)) t := fun t k => pre4 t (by
        show Steps p.tables e below (s₁.setTop (mkF m 111 #[.val (.int p1), .val (.int p2), .val (.int p3), .val (.long p4), .second, .val (.int p5), .val (.int ww), .val (.long sS), .second, .val (.int (p5 &&& (3 : Int32))), .val (.int ee), .val (.long ff), .second, .val (.long bits), .second, .unset] [(.int (1 : Int32)), (.int ww)])) _
        refine XS.icmpNo X0.here hx rfl (hb hby at_111) rfl (XT.ii_ne_f h1) ?_
        show Steps p.tables e below (s₁.setTop (mkF m 114 #[.val (.int p1), .val (.int p2), .val (.int p3), .val (.long p4), .second, .val (.int p5), .val (.int ww), .val (.long sS), .second, .val (.int (p5 &&& (3 : Int32))), .val (.int ee), .val (.long ff), .second, .val (.long bits), .second, .unset] [])) _
        exact k)
      obtain ⟨T6, X6, e6, st6⟩ := getS2 X0 hx hZ hown (host := "") (Or.inl (hw _ (List.mem_of_getElem? (i := 25) rfl))) Via.refl e0 SSINGLE (g := (mkF m 114 #[.val (.int p1), .val (.int p2), .val (.int p3), .val (.long p4), .second, .val (.int p5), .val (.int ww), .val (.long sS), .second, .val (.int (p5 &&& (3 : Int32))), .val (.int ee), .val (.long ff), .second, .val (.long bits), .second, .unset] [])) rfl (hb hby at_114)
      have pre7 : ∀ t, Steps p.tables e below (T6.setTop (mkF m 129 #[.val (.int p1), .val (.int p2), .val (.int p3), .val (.long p4), .second, .val (.int p5), .val (.int ww), .val (.long sS), .second, .val (.int (p5 &&& (3 : Int32))), .val (.int ee), .val (.long ff), .second, .val (.long bits), .second, .val (.ref aS)] [(.long bits), (.ref aS)])) t → Steps p.tables e below (s₁.setTop (entryFrame m #[(.int p1), (.int p2), (.int p3), (.long p4), (.int p5)] maxLocals)) t := fun t k => pre5 t (by
        show Steps p.tables e below (s₁.setTop (mkF m 114 #[.val (.int p1), .val (.int p2), .val (.int p3), .val (.long p4), .second, .val (.int p5), .val (.int ww), .val (.long sS), .second, .val (.int (p5 &&& (3 : Int32))), .val (.int ee), .val (.long ff), .second, .val (.long bits), .second, .unset] [])) _
        refine st6 _ ?_
        show Steps p.tables e below (T6.setTop (mkF m 117 #[.val (.int p1), .val (.int p2), .val (.int p3), .val (.long p4), .second, .val (.int p5), .val (.int ww), .val (.long sS), .second, .val (.int (p5 &&& (3 : Int32))), .val (.int ee), .val (.long ff), .second, .val (.long bits), .second, .unset] [(.ref aS)])) _
        refine XS.goto X6.here hx rfl (pc0 := 117) (pc' := 123) rfl (hb hby at_117) (by decide) (by decide) ?_
        show Steps p.tables e below (T6.setTop (mkF m 123 #[.val (.int p1), .val (.int p2), .val (.int p3), .val (.long p4), .second, .val (.int p5), .val (.int ww), .val (.long sS), .second, .val (.int (p5 &&& (3 : Int32))), .val (.int ee), .val (.long ff), .second, .val (.long bits), .second, .unset] [(.ref aS)])) _
        refine XS.astore X6.here hx rfl (hb hby at_123) rfl rfl (l' := #[.val (.int p1), .val (.int p2), .val (.int p3), .val (.long p4), .second, .val (.int p5), .val (.int ww), .val (.long sS), .second, .val (.int (p5 &&& (3 : Int32))), .val (.int ee), .val (.long ff), .second, .val (.long bits), .second, .val (.ref aS)]) rfl ?_
        show Steps p.tables e below (T6.setTop (mkF m 125 #[.val (.int p1), .val (.int p2), .val (.int p3), .val (.long p4), .second, .val (.int p5), .val (.int ww), .val (.long sS), .second, .val (.int (p5 &&& (3 : Int32))), .val (.int ee), .val (.long ff), .second, .val (.long bits), .second, .val (.ref aS)] [])) _
        refine XS.aload X6.here hx rfl (hb hby at_125) rfl rfl ?_
        show Steps p.tables e below (T6.setTop (mkF m 127 #[.val (.int p1), .val (.int p2), .val (.int p3), .val (.long p4), .second, .val (.int p5), .val (.int ww), .val (.long sS), .second, .val (.int (p5 &&& (3 : Int32))), .val (.int ee), .val (.long ff), .second, .val (.long bits), .second, .val (.ref aS)] [(.ref aS)])) _
        refine XT.lload X6.here hx rfl (hb hby at_127) rfl ?_
        show Steps p.tables e below (T6.setTop (mkF m 129 #[.val (.int p1), .val (.int p2), .val (.int p3), .val (.long p4), .second, .val (.int p5), .val (.int ww), .val (.long sS), .second, .val (.int (p5 &&& (3 : Int32))), .val (.int ee), .val (.long ff), .second, .val (.long bits), .second, .val (.ref aS)] [(.long bits), (.ref aS)])) _
        exact k)
      obtain ⟨cq8, kq8, q8a, q8b, q8c⟩ := isOf hZ e6 ESINGLE
      obtain ⟨_, _, ⟨T8, L8, kk8, nn8⟩, -, X8, ⟨Lc8, hQ8, l8, y8, z8⟩, st8⟩ := X6.virtualBack hx (y := (⟨"com/example/samewire/samewire/FloatFormat", "narrow", "(J)J"⟩ : MethodName)) (z := (⟨"com/example/samewire/samewire/FloatFormat", "narrow", "(J)J"⟩ : MethodName)) hown (mvT hZ (hw _ (List.mem_of_getElem? (i := 5) rfl))) (mvT hZ (hw _ (List.mem_of_getElem? (i := 6) rfl))) (notFace_of_selects (args := #[]) (mvT hZ (hw _ (List.mem_of_getElem? (i := 8) rfl)))) (mvT hZ (hw _ (List.mem_of_getElem? (i := 8) rfl))) (mvT hZ (hw _ (List.mem_of_getElem? (i := 7) rfl))) (by decide) (backOf (W := 0) (rm_na l Z a0 hw [] aS aD bits 31 127 29 255 23 h0 n0 Z0 SDOUBLE neS FSINGLE_ss FSINGLE_bi FSINGLE_dr FSINGLE_sp FSINGLE_fr) hZ (hw _ (List.mem_of_getElem? (i := 9) rfl)) (hw _ (List.mem_of_getElem? (i := 3) rfl)) (by decide) (by decide)) q8a q8c (g := (mkF m 129 #[.val (.int p1), .val (.int p2), .val (.int p3), .val (.long p4), .second, .val (.int p5), .val (.int ww), .val (.long sS), .second, .val (.int (p5 &&& (3 : Int32))), .val (.int ee), .val (.long ff), .second, .val (.long bits), .second, .val (.ref aS)] [(.long bits), (.ref aS)])) rfl (by rw [hml]; rfl) (Steps.refl _) (argsL := [(.long bits)]) (rest := []) (lenOf pd__J_J rfl) rfl (by show 2 * 0 + _ ≤ _; exact Nat.le_of_eq rfl) (hb hby at_129) (fun _ _ => ⟨rfl, e6, (by decide : 0 + 0 ≤ _), (by decide : 0 + 0 ≤ _)⟩)
      dsimp only [Pt.U, Pt.locs, Pt.cells, Pt.slots] at X8 l8 y8 z8 st8 hQ8
      subst l8 y8 z8
      obtain ⟨rfl, N8q, eq8⟩ := hQ8
      have N8 := Fr.app N0 N8q
      have pre9 : ∀ t, Steps p.tables e below (T8.setTop (mkF m 142 #[.val (.int p1), .val (.int p2), .val (.int p3), .val (.long p4), .second, .val (.int p5), .val (.int ww), .val (.long sS), .second, .val (.int (p5 &&& (3 : Int32))), .val (.int ee), .val (.long ff), .second, .val (.long bits), .second, .val (.ref aS)] [(.long bits), (.long ff), (.int ee), (.long sS), (.int ww), (.long (own_nar 31 127 29 255 23 (XT.ushrL bits (63 : Int32) <<< ((31 : Int32).toInt64 &&& 63)) ((XT.ushrL bits (52 : Int32)).toInt32 &&& (2047 : Int32)) (bits &&& (4503599627370495 : Int64))))])) t → Steps p.tables e below (s₁.setTop (entryFrame m #[(.int p1), (.int p2), (.int p3), (.long p4), (.int p5)] maxLocals)) t := fun t k => pre7 t (by
        show Steps p.tables e below (T6.setTop (mkF m 129 #[.val (.int p1), .val (.int p2), .val (.int p3), .val (.long p4), .second, .val (.int p5), .val (.int ww), .val (.long sS), .second, .val (.int (p5 &&& (3 : Int32))), .val (.int ee), .val (.long ff), .second, .val (.long bits), .second, .val (.ref aS)] [(.long bits), (.ref aS)])) _
        refine st8.trans ?_
        show Steps p.tables e below (T8.setTop (mkF m 132 #[.val (.int p1), .val (.int p2), .val (.int p3), .val (.long p4), .second, .val (.int p5), .val (.int ww), .val (.long sS), .second, .val (.int (p5 &&& (3 : Int32))), .val (.int ee), .val (.long ff), .second, .val (.long bits), .second, .val (.ref aS)] [(.long (own_nar 31 127 29 255 23 (XT.ushrL bits (63 : Int32) <<< ((31 : Int32).toInt64 &&& 63)) ((XT.ushrL bits (52 : Int32)).toInt32 &&& (2047 : Int32)) (bits &&& (4503599627370495 : Int64))))])) _
        refine XS.iload X8.here hx rfl (hb hby at_132) rfl ?_
        show Steps p.tables e below (T8.setTop (mkF m 134 #[.val (.int p1), .val (.int p2), .val (.int p3), .val (.long p4), .second, .val (.int p5), .val (.int ww), .val (.long sS), .second, .val (.int (p5 &&& (3 : Int32))), .val (.int ee), .val (.long ff), .second, .val (.long bits), .second, .val (.ref aS)] [(.int ww), (.long (own_nar 31 127 29 255 23 (XT.ushrL bits (63 : Int32) <<< ((31 : Int32).toInt64 &&& 63)) ((XT.ushrL bits (52 : Int32)).toInt32 &&& (2047 : Int32)) (bits &&& (4503599627370495 : Int64))))])) _
        refine XT.lload X8.here hx rfl (hb hby at_134) rfl ?_
        show Steps p.tables e below (T8.setTop (mkF m 136 #[.val (.int p1), .val (.int p2), .val (.int p3), .val (.long p4), .second, .val (.int p5), .val (.int ww), .val (.long sS), .second, .val (.int (p5 &&& (3 : Int32))), .val (.int ee), .val (.long ff), .second, .val (.long bits), .second, .val (.ref aS)] [(.long sS), (.int ww), (.long (own_nar 31 127 29 255 23 (XT.ushrL bits (63 : Int32) <<< ((31 : Int32).toInt64 &&& 63)) ((XT.ushrL bits (52 : Int32)).toInt32 &&& (2047 : Int32)) (bits &&& (4503599627370495 : Int64))))])) _
        refine XS.iload X8.here hx rfl (hb hby at_136) rfl ?_
        show Steps p.tables e below (T8.setTop (mkF m 138 #[.val (.int p1), .val (.int p2), .val (.int p3), .val (.long p4), .second, .val (.int p5), .val (.int ww), .val (.long sS), .second, .val (.int (p5 &&& (3 : Int32))), .val (.int ee), .val (.long ff), .second, .val (.long bits), .second, .val (.ref aS)] [(.int ee), (.long sS), (.int ww), (.long (own_nar 31 127 29 255 23 (XT.ushrL bits (63 : Int32) <<< ((31 : Int32).toInt64 &&& 63)) ((XT.ushrL bits (52 : Int32)).toInt32 &&& (2047 : Int32)) (bits &&& (4503599627370495 : Int64))))])) _
        refine XT.lload X8.here hx rfl (hb hby at_138) rfl ?_
        show Steps p.tables e below (T8.setTop (mkF m 140 #[.val (.int p1), .val (.int p2), .val (.int p3), .val (.long p4), .second, .val (.int p5), .val (.int ww), .val (.long sS), .second, .val (.int (p5 &&& (3 : Int32))), .val (.int ee), .val (.long ff), .second, .val (.long bits), .second, .val (.ref aS)] [(.long ff), (.int ee), (.long sS), (.int ww), (.long (own_nar 31 127 29 255 23 (XT.ushrL bits (63 : Int32) <<< ((31 : Int32).toInt64 &&& 63)) ((XT.ushrL bits (52 : Int32)).toInt32 &&& (2047 : Int32)) (bits &&& (4503599627370495 : Int64))))])) _
        refine XT.lload X8.here hx rfl (hb hby at_140) rfl ?_
        show Steps p.tables e below (T8.setTop (mkF m 142 #[.val (.int p1), .val (.int p2), .val (.int p3), .val (.long p4), .second, .val (.int p5), .val (.int ww), .val (.long sS), .second, .val (.int (p5 &&& (3 : Int32))), .val (.int ee), .val (.long ff), .second, .val (.long bits), .second, .val (.ref aS)] [(.long bits), (.long ff), (.int ee), (.long sS), (.int ww), (.long (own_nar 31 127 29 255 23 (XT.ushrL bits (63 : Int32) <<< ((31 : Int32).toInt64 &&& 63)) ((XT.ushrL bits (52 : Int32)).toInt32 &&& (2047 : Int32)) (bits &&& (4503599627370495 : Int64))))])) _
        exact k)
      obtain ⟨_, _, ⟨T10, L10, kk10, nn10⟩, -, X10, ⟨Lc10, hQ10, l10, y10, z10⟩, st10⟩ := Jvm.LawKit.callS X8 hx (y := (⟨"com/example/samewire/samewire/FloatFormatNarrowPinLaw", "expected", "(IJIJJ)J"⟩ : MethodName)) hown (mvT hZ (hw _ (List.mem_of_getElem? (i := 20) rfl))) (mvT hZ (hw _ (List.mem_of_getElem? (i := 21) rfl))) (mvT hZ (hw _ (List.mem_of_getElem? (i := 22) rfl))) (mvT hZ (hw _ (List.mem_of_getElem? (i := 23) rfl))) (by decide) (backOf (W := 2) (rm_ex1 l Z a0 hw [] ww sS ee ff bits h0 n0 Z0 h2 hq0) hZ (hw _ (List.mem_of_getElem? (i := 23) rfl)) (hw _ (List.mem_of_getElem? (i := 22) rfl)) (by decide) (by decide)) (g := (mkF m 142 #[.val (.int p1), .val (.int p2), .val (.int p3), .val (.long p4), .second, .val (.int p5), .val (.int ww), .val (.long sS), .second, .val (.int (p5 &&& (3 : Int32))), .val (.int ee), .val (.long ff), .second, .val (.long bits), .second, .val (.ref aS)] [(.long bits), (.long ff), (.int ee), (.long sS), (.int ww), (.long (own_nar 31 127 29 255 23 (XT.ushrL bits (63 : Int32) <<< ((31 : Int32).toInt64 &&& 63)) ((XT.ushrL bits (52 : Int32)).toInt32 &&& (2047 : Int32)) (bits &&& (4503599627370495 : Int64))))])) rfl (by rw [hml]; rfl) (argsL := [(.int ww), (.long sS), (.int ee), (.long ff), (.long bits)]) (rest := [(.long (own_nar 31 127 29 255 23 (XT.ushrL bits (63 : Int32) <<< ((31 : Int32).toInt64 &&& 63)) ((XT.ushrL bits (52 : Int32)).toInt32 &&& (2047 : Int32)) (bits &&& (4503599627370495 : Int64))))]) (lenOf pd__IJIJJ_J rfl) rfl (by show 2 * 0 + _ ≤ _; exact Nat.le_of_eq rfl) (hb hby at_142) (fun _ _ => ⟨rfl, eq8, (by decide : 0 + 0 ≤ _), (by decide : 0 + 0 ≤ _)⟩)
      dsimp only [Pt.U, Pt.locs, Pt.cells, Pt.slots] at X10 l10 y10 z10 st10 hQ10
      subst l10 y10 z10
      obtain ⟨rfl, N10q, eq10⟩ := hQ10
      have N10 := Fr.app N8 N10q
      have pre11 : ∀ t, Steps p.tables e below (T10.setTop (mkF m 154 #[.val (.int p1), .val (.int p2), .val (.int p3), .val (.long p4), .second, .val (.int p5), .val (.int ww), .val (.long sS), .second, .val (.int (p5 &&& (3 : Int32))), .val (.int ee), .val (.long ff), .second, .val (.long bits), .second, .val (.ref aS)] [(.int (1 : Int32))])) t → Steps p.tables e below (s₁.setTop (entryFrame m #[(.int p1), (.int p2), (.int p3), (.long p4), (.int p5)] maxLocals)) t := fun t k => pre9 t (by
        show Steps p.tables e below (T8.setTop (mkF m 142 #[.val (.int p1), .val (.int p2), .val (.int p3), .val (.long p4), .second, .val (.int p5), .val (.int ww), .val (.long sS), .second, .val (.int (p5 &&& (3 : Int32))), .val (.int ee), .val (.long ff), .second, .val (.long bits), .second, .val (.ref aS)] [(.long bits), (.long ff), (.int ee), (.long sS), (.int ww), (.long (own_nar 31 127 29 255 23 (XT.ushrL bits (63 : Int32) <<< ((31 : Int32).toInt64 &&& 63)) ((XT.ushrL bits (52 : Int32)).toInt32 &&& (2047 : Int32)) (bits &&& (4503599627370495 : Int64))))])) _
        refine st10 _ ?_
        show Steps p.tables e below (T10.setTop (mkF m 145 #[.val (.int p1), .val (.int p2), .val (.int p3), .val (.long p4), .second, .val (.int p5), .val (.int ww), .val (.long sS), .second, .val (.int (p5 &&& (3 : Int32))), .val (.int ee), .val (.long ff), .second, .val (.long bits), .second, .val (.ref aS)] [(.long (own_exp 29 896 255 1151 926 (sS <<< ((31 : Int32).toInt64 &&& 63)) ee ff (bits &&& (9223372036854775807 : Int64)))), (.long (own_nar 31 127 29 255 23 (XT.ushrL bits (63 : Int32) <<< ((31 : Int32).toInt64 &&& 63)) ((XT.ushrL bits (52 : Int32)).toInt32 &&& (2047 : Int32)) (bits &&& (4503599627370495 : Int64))))])) _
        refine XT.lcmp X10.here hx rfl (hb hby at_145) rfl ?_
        show Steps p.tables e below (T10.setTop (mkF m 146 #[.val (.int p1), .val (.int p2), .val (.int p3), .val (.long p4), .second, .val (.int p5), .val (.int ww), .val (.long sS), .second, .val (.int (p5 &&& (3 : Int32))), .val (.int ee), .val (.long ff), .second, .val (.long bits), .second, .val (.ref aS)] [(.int (XT.cmpL (own_nar 31 127 29 255 23 (XT.ushrL bits (63 : Int32) <<< ((31 : Int32).toInt64 &&& 63)) ((XT.ushrL bits (52 : Int32)).toInt32 &&& (2047 : Int32)) (bits &&& (4503599627370495 : Int64))) (own_exp 29 896 255 1151 926 (sS <<< ((31 : Int32).toInt64 &&& 63)) ee ff (bits &&& (9223372036854775807 : Int64)))))])) _
        refine XS.ifNo X10.here hx rfl (hb hby at_146) rfl (XT.ll_ne_f (own_same1 bsS bee bff hbits)) ?_
        show Steps p.tables e below (T10.setTop (mkF m 149 #[.val (.int p1), .val (.int p2), .val (.int p3), .val (.long p4), .second, .val (.int p5), .val (.int ww), .val (.long sS), .second, .val (.int (p5 &&& (3 : Int32))), .val (.int ee), .val (.long ff), .second, .val (.long bits), .second, .val (.ref aS)] [])) _
        refine XS.iconst X10.here hx rfl (hb hby at_149) ?_
        show Steps p.tables e below (T10.setTop (mkF m 150 #[.val (.int p1), .val (.int p2), .val (.int p3), .val (.long p4), .second, .val (.int p5), .val (.int ww), .val (.long sS), .second, .val (.int (p5 &&& (3 : Int32))), .val (.int ee), .val (.long ff), .second, .val (.long bits), .second, .val (.ref aS)] [(.int (1 : Int32))])) _
        refine XS.goto X10.here hx rfl (pc0 := 150) (pc' := 154) rfl (hb hby at_150) (by decide) (by decide) ?_
        show Steps p.tables e below (T10.setTop (mkF m 154 #[.val (.int p1), .val (.int p2), .val (.int p3), .val (.long p4), .second, .val (.int p5), .val (.int ww), .val (.long sS), .second, .val (.int (p5 &&& (3 : Int32))), .val (.int ee), .val (.long ff), .second, .val (.long bits), .second, .val (.ref aS)] [(.int (1 : Int32))])) _
        exact k)
      obtain ⟨fs, hr, hrun, hended, hW, hsame⟩ := X10.leave (v := some (.int (1 : Int32))) (fun h => by rw [Bd.returns] at h; cases h)
      refine ⟨_, _, pre11 _ ?_, hrun, hended, _, _, rfl, ?_, ⟨_, rfl⟩, hW, hsame.mono (by decide) (by decide)⟩
      · exact retN X10 hx (t := .boolean) Bd.returns (by simp) (hb hby at_154) hr
      · show Q_0 Z p1 p2 p3 p4 p5 aH aS aD h0 n0 _ T10.heap _
        rw [eq10]
        exact ⟨rfl, N10⟩
    · skip
      have h2 : ww = 2 := by rcases bww with q | q | q; exact absurd q hq0; exact absurd q h1; exact q
      have pre5 : ∀ t, Steps p.tables e below (s₁.setTop (mkF m 120 #[.val (.int p1), .val (.int p2), .val (.int p3), .val (.long p4), .second, .val (.int p5), .val (.int ww), .val (.long sS), .second, .val (.int (p5 &&& (3 : Int32))), .val (.int ee), .val (.long ff), .second, .val (.long bits), .second, .unset] [])) t → Steps p.tables e below (s₁.setTop (entryFrame m #[(.int p1), (.int p2), (.int p3), (.long p4), (.int p5)] maxLocals)) t := fun t k => pre4 t (by
        show Steps p.tables e below (s₁.setTop (mkF m 111 #[.val (.int p1), .val (.int p2), .val (.int p3), .val (.long p4), .second, .val (.int p5), .val (.int ww), .val (.long sS), .second, .val (.int (p5 &&& (3 : Int32))), .val (.int ee), .val (.long ff), .second, .val (.long bits), .second, .unset] [(.int (1 : Int32)), (.int ww)])) _
        refine XS.icmpYes X0.here hx rfl (pc0 := 111) (pc' := 120) rfl (hb hby at_111) rfl (XT.ii_ne_t h1) (by decide) (by decide) ?_
        show Steps p.tables e below (s₁.setTop (mkF m 120 #[.val (.int p1), .val (.int p2), .val (.int p3), .val (.long p4), .second, .val (.int p5), .val (.int ww), .val (.long sS), .second, .val (.int (p5 &&& (3 : Int32))), .val (.int ee), .val (.long ff), .second, .val (.long bits), .second, .unset] [])) _
        exact k)
      obtain ⟨T6, X6, e6, st6⟩ := getS2 X0 hx hZ hown (host := "") (Or.inl (hw _ (List.mem_of_getElem? (i := 28) rfl))) Via.refl e0 SDOUBLE (g := (mkF m 120 #[.val (.int p1), .val (.int p2), .val (.int p3), .val (.long p4), .second, .val (.int p5), .val (.int ww), .val (.long sS), .second, .val (.int (p5 &&& (3 : Int32))), .val (.int ee), .val (.long ff), .second, .val (.long bits), .second, .unset] [])) rfl (hb hby at_120)
      have pre7 : ∀ t, Steps p.tables e below (T6.setTop (mkF m 129 #[.val (.int p1), .val (.int p2), .val (.int p3), .val (.long p4), .second, .val (.int p5), .val (.int ww), .val (.long sS), .second, .val (.int (p5 &&& (3 : Int32))), .val (.int ee), .val (.long ff), .second, .val (.long bits), .second, .val (.ref aD)] [(.long bits), (.ref aD)])) t → Steps p.tables e below (s₁.setTop (entryFrame m #[(.int p1), (.int p2), (.int p3), (.long p4), (.int p5)] maxLocals)) t := fun t k => pre5 t (by
        show Steps p.tables e below (s₁.setTop (mkF m 120 #[.val (.int p1), .val (.int p2), .val (.int p3), .val (.long p4), .second, .val (.int p5), .val (.int ww), .val (.long sS), .second, .val (.int (p5 &&& (3 : Int32))), .val (.int ee), .val (.long ff), .second, .val (.long bits), .second, .unset] [])) _
        refine st6 _ ?_
        show Steps p.tables e below (T6.setTop (mkF m 123 #[.val (.int p1), .val (.int p2), .val (.int p3), .val (.long p4), .second, .val (.int p5), .val (.int ww), .val (.long sS), .second, .val (.int (p5 &&& (3 : Int32))), .val (.int ee), .val (.long ff), .second, .val (.long bits), .second, .unset] [(.ref aD)])) _
        refine XS.astore X6.here hx rfl (hb hby at_123) rfl rfl (l' := #[.val (.int p1), .val (.int p2), .val (.int p3), .val (.long p4), .second, .val (.int p5), .val (.int ww), .val (.long sS), .second, .val (.int (p5 &&& (3 : Int32))), .val (.int ee), .val (.long ff), .second, .val (.long bits), .second, .val (.ref aD)]) rfl ?_
        show Steps p.tables e below (T6.setTop (mkF m 125 #[.val (.int p1), .val (.int p2), .val (.int p3), .val (.long p4), .second, .val (.int p5), .val (.int ww), .val (.long sS), .second, .val (.int (p5 &&& (3 : Int32))), .val (.int ee), .val (.long ff), .second, .val (.long bits), .second, .val (.ref aD)] [])) _
        refine XS.aload X6.here hx rfl (hb hby at_125) rfl rfl ?_
        show Steps p.tables e below (T6.setTop (mkF m 127 #[.val (.int p1), .val (.int p2), .val (.int p3), .val (.long p4), .second, .val (.int p5), .val (.int ww), .val (.long sS), .second, .val (.int (p5 &&& (3 : Int32))), .val (.int ee), .val (.long ff), .second, .val (.long bits), .second, .val (.ref aD)] [(.ref aD)])) _
        refine XT.lload X6.here hx rfl (hb hby at_127) rfl ?_
        show Steps p.tables e below (T6.setTop (mkF m 129 #[.val (.int p1), .val (.int p2), .val (.int p3), .val (.long p4), .second, .val (.int p5), .val (.int ww), .val (.long sS), .second, .val (.int (p5 &&& (3 : Int32))), .val (.int ee), .val (.long ff), .second, .val (.long bits), .second, .val (.ref aD)] [(.long bits), (.ref aD)])) _
        exact k)
      obtain ⟨cq8, kq8, q8a, q8b, q8c⟩ := isOf hZ e6 EDOUBLE
      obtain ⟨_, _, ⟨T8, L8, kk8, nn8⟩, -, X8, ⟨Lc8, hQ8, l8, y8, z8⟩, st8⟩ := X6.virtualBack hx (y := (⟨"com/example/samewire/samewire/FloatFormat", "narrow", "(J)J"⟩ : MethodName)) (z := (⟨"com/example/samewire/samewire/FloatFormat", "narrow", "(J)J"⟩ : MethodName)) hown (mvT hZ (hw _ (List.mem_of_getElem? (i := 5) rfl))) (mvT hZ (hw _ (List.mem_of_getElem? (i := 6) rfl))) (notFace_of_selects (args := #[]) (mvT hZ (hw _ (List.mem_of_getElem? (i := 8) rfl)))) (mvT hZ (hw _ (List.mem_of_getElem? (i := 8) rfl))) (mvT hZ (hw _ (List.mem_of_getElem? (i := 7) rfl))) (by decide) (backOf (W := 0) (rm_nd l Z a0 hw [] aD bits h0 n0 Z0 SDOUBLE) hZ (hw _ (List.mem_of_getElem? (i := 9) rfl)) (hw _ (List.mem_of_getElem? (i := 3) rfl)) (by decide) (by decide)) q8a q8c (g := (mkF m 129 #[.val (.int p1), .val (.int p2), .val (.int p3), .val (.long p4), .second, .val (.int p5), .val (.int ww), .val (.long sS), .second, .val (.int (p5 &&& (3 : Int32))), .val (.int ee), .val (.long ff), .second, .val (.long bits), .second, .val (.ref aD)] [(.long bits), (.ref aD)])) rfl (by rw [hml]; rfl) (Steps.refl _) (argsL := [(.long bits)]) (rest := []) (lenOf pd__J_J rfl) rfl (by show 2 * 0 + _ ≤ _; exact Nat.le_of_eq rfl) (hb hby at_129) (fun _ _ => ⟨rfl, e6, (by decide : 0 + 0 ≤ _), (by decide : 0 + 0 ≤ _)⟩)
      dsimp only [Pt.U, Pt.locs, Pt.cells, Pt.slots] at X8 l8 y8 z8 st8 hQ8
      subst l8 y8 z8
      obtain ⟨rfl, N8q, eq8⟩ := hQ8
      have N8 := Fr.app N0 N8q
      have pre9 : ∀ t, Steps p.tables e below (T8.setTop (mkF m 142 #[.val (.int p1), .val (.int p2), .val (.int p3), .val (.long p4), .second, .val (.int p5), .val (.int ww), .val (.long sS), .second, .val (.int (p5 &&& (3 : Int32))), .val (.int ee), .val (.long ff), .second, .val (.long bits), .second, .val (.ref aD)] [(.long bits), (.long ff), (.int ee), (.long sS), (.int ww), (.long bits)])) t → Steps p.tables e below (s₁.setTop (entryFrame m #[(.int p1), (.int p2), (.int p3), (.long p4), (.int p5)] maxLocals)) t := fun t k => pre7 t (by
        show Steps p.tables e below (T6.setTop (mkF m 129 #[.val (.int p1), .val (.int p2), .val (.int p3), .val (.long p4), .second, .val (.int p5), .val (.int ww), .val (.long sS), .second, .val (.int (p5 &&& (3 : Int32))), .val (.int ee), .val (.long ff), .second, .val (.long bits), .second, .val (.ref aD)] [(.long bits), (.ref aD)])) _
        refine st8.trans ?_
        show Steps p.tables e below (T8.setTop (mkF m 132 #[.val (.int p1), .val (.int p2), .val (.int p3), .val (.long p4), .second, .val (.int p5), .val (.int ww), .val (.long sS), .second, .val (.int (p5 &&& (3 : Int32))), .val (.int ee), .val (.long ff), .second, .val (.long bits), .second, .val (.ref aD)] [(.long bits)])) _
        refine XS.iload X8.here hx rfl (hb hby at_132) rfl ?_
        show Steps p.tables e below (T8.setTop (mkF m 134 #[.val (.int p1), .val (.int p2), .val (.int p3), .val (.long p4), .second, .val (.int p5), .val (.int ww), .val (.long sS), .second, .val (.int (p5 &&& (3 : Int32))), .val (.int ee), .val (.long ff), .second, .val (.long bits), .second, .val (.ref aD)] [(.int ww), (.long bits)])) _
        refine XT.lload X8.here hx rfl (hb hby at_134) rfl ?_
        show Steps p.tables e below (T8.setTop (mkF m 136 #[.val (.int p1), .val (.int p2), .val (.int p3), .val (.long p4), .second, .val (.int p5), .val (.int ww), .val (.long sS), .second, .val (.int (p5 &&& (3 : Int32))), .val (.int ee), .val (.long ff), .second, .val (.long bits), .second, .val (.ref aD)] [(.long sS), (.int ww), (.long bits)])) _
        refine XS.iload X8.here hx rfl (hb hby at_136) rfl ?_
        show Steps p.tables e below (T8.setTop (mkF m 138 #[.val (.int p1), .val (.int p2), .val (.int p3), .val (.long p4), .second, .val (.int p5), .val (.int ww), .val (.long sS), .second, .val (.int (p5 &&& (3 : Int32))), .val (.int ee), .val (.long ff), .second, .val (.long bits), .second, .val (.ref aD)] [(.int ee), (.long sS), (.int ww), (.long bits)])) _
        refine XT.lload X8.here hx rfl (hb hby at_138) rfl ?_
        show Steps p.tables e below (T8.setTop (mkF m 140 #[.val (.int p1), .val (.int p2), .val (.int p3), .val (.long p4), .second, .val (.int p5), .val (.int ww), .val (.long sS), .second, .val (.int (p5 &&& (3 : Int32))), .val (.int ee), .val (.long ff), .second, .val (.long bits), .second, .val (.ref aD)] [(.long ff), (.int ee), (.long sS), (.int ww), (.long bits)])) _
        refine XT.lload X8.here hx rfl (hb hby at_140) rfl ?_
        show Steps p.tables e below (T8.setTop (mkF m 142 #[.val (.int p1), .val (.int p2), .val (.int p3), .val (.long p4), .second, .val (.int p5), .val (.int ww), .val (.long sS), .second, .val (.int (p5 &&& (3 : Int32))), .val (.int ee), .val (.long ff), .second, .val (.long bits), .second, .val (.ref aD)] [(.long bits), (.long ff), (.int ee), (.long sS), (.int ww), (.long bits)])) _
        exact k)
      obtain ⟨_, _, ⟨T10, L10, kk10, nn10⟩, -, X10, ⟨Lc10, hQ10, l10, y10, z10⟩, st10⟩ := Jvm.LawKit.callS X8 hx (y := (⟨"com/example/samewire/samewire/FloatFormatNarrowPinLaw", "expected", "(IJIJJ)J"⟩ : MethodName)) hown (mvT hZ (hw _ (List.mem_of_getElem? (i := 20) rfl))) (mvT hZ (hw _ (List.mem_of_getElem? (i := 21) rfl))) (mvT hZ (hw _ (List.mem_of_getElem? (i := 22) rfl))) (mvT hZ (hw _ (List.mem_of_getElem? (i := 23) rfl))) (by decide) (backOf (W := 2) (rm_ex2 l Z a0 hw [] ww sS ee ff bits h0 n0 Z0 h2) hZ (hw _ (List.mem_of_getElem? (i := 23) rfl)) (hw _ (List.mem_of_getElem? (i := 22) rfl)) (by decide) (by decide)) (g := (mkF m 142 #[.val (.int p1), .val (.int p2), .val (.int p3), .val (.long p4), .second, .val (.int p5), .val (.int ww), .val (.long sS), .second, .val (.int (p5 &&& (3 : Int32))), .val (.int ee), .val (.long ff), .second, .val (.long bits), .second, .val (.ref aD)] [(.long bits), (.long ff), (.int ee), (.long sS), (.int ww), (.long bits)])) rfl (by rw [hml]; rfl) (argsL := [(.int ww), (.long sS), (.int ee), (.long ff), (.long bits)]) (rest := [(.long bits)]) (lenOf pd__IJIJJ_J rfl) rfl (by show 2 * 0 + _ ≤ _; exact Nat.le_of_eq rfl) (hb hby at_142) (fun _ _ => ⟨rfl, eq8, (by decide : 0 + 0 ≤ _), (by decide : 0 + 0 ≤ _)⟩)
      dsimp only [Pt.U, Pt.locs, Pt.cells, Pt.slots] at X10 l10 y10 z10 st10 hQ10
      subst l10 y10 z10
      obtain ⟨rfl, N10q, eq10⟩ := hQ10
      have N10 := Fr.app N8 N10q
      have pre11 : ∀ t, Steps p.tables e below (T10.setTop (mkF m 154 #[.val (.int p1), .val (.int p2), .val (.int p3), .val (.long p4), .second, .val (.int p5), .val (.int ww), .val (.long sS), .second, .val (.int (p5 &&& (3 : Int32))), .val (.int ee), .val (.long ff), .second, .val (.long bits), .second, .val (.ref aD)] [(.int (1 : Int32))])) t → Steps p.tables e below (s₁.setTop (entryFrame m #[(.int p1), (.int p2), (.int p3), (.long p4), (.int p5)] maxLocals)) t := fun t k => pre9 t (by
        show Steps p.tables e below (T8.setTop (mkF m 142 #[.val (.int p1), .val (.int p2), .val (.int p3), .val (.long p4), .second, .val (.int p5), .val (.int ww), .val (.long sS), .second, .val (.int (p5 &&& (3 : Int32))), .val (.int ee), .val (.long ff), .second, .val (.long bits), .second, .val (.ref aD)] [(.long bits), (.long ff), (.int ee), (.long sS), (.int ww), (.long bits)])) _
        refine st10 _ ?_
        show Steps p.tables e below (T10.setTop (mkF m 145 #[.val (.int p1), .val (.int p2), .val (.int p3), .val (.long p4), .second, .val (.int p5), .val (.int ww), .val (.long sS), .second, .val (.int (p5 &&& (3 : Int32))), .val (.int ee), .val (.long ff), .second, .val (.long bits), .second, .val (.ref aD)] [(.long bits), (.long bits)])) _
        refine XT.lcmp X10.here hx rfl (hb hby at_145) rfl ?_
        show Steps p.tables e below (T10.setTop (mkF m 146 #[.val (.int p1), .val (.int p2), .val (.int p3), .val (.long p4), .second, .val (.int p5), .val (.int ww), .val (.long sS), .second, .val (.int (p5 &&& (3 : Int32))), .val (.int ee), .val (.long ff), .second, .val (.long bits), .second, .val (.ref aD)] [(.int (XT.cmpL bits bits))])) _
        refine XS.ifNo X10.here hx rfl (hb hby at_146) rfl (XT.ll_ne_f rfl) ?_
        show Steps p.tables e below (T10.setTop (mkF m 149 #[.val (.int p1), .val (.int p2), .val (.int p3), .val (.long p4), .second, .val (.int p5), .val (.int ww), .val (.long sS), .second, .val (.int (p5 &&& (3 : Int32))), .val (.int ee), .val (.long ff), .second, .val (.long bits), .second, .val (.ref aD)] [])) _
        refine XS.iconst X10.here hx rfl (hb hby at_149) ?_
        show Steps p.tables e below (T10.setTop (mkF m 150 #[.val (.int p1), .val (.int p2), .val (.int p3), .val (.long p4), .second, .val (.int p5), .val (.int ww), .val (.long sS), .second, .val (.int (p5 &&& (3 : Int32))), .val (.int ee), .val (.long ff), .second, .val (.long bits), .second, .val (.ref aD)] [(.int (1 : Int32))])) _
        refine XS.goto X10.here hx rfl (pc0 := 150) (pc' := 154) rfl (hb hby at_150) (by decide) (by decide) ?_
        show Steps p.tables e below (T10.setTop (mkF m 154 #[.val (.int p1), .val (.int p2), .val (.int p3), .val (.long p4), .second, .val (.int p5), .val (.int ww), .val (.long sS), .second, .val (.int (p5 &&& (3 : Int32))), .val (.int ee), .val (.long ff), .second, .val (.long bits), .second, .val (.ref aD)] [(.int (1 : Int32))])) _
        exact k)
      obtain ⟨fs, hr, hrun, hended, hW, hsame⟩ := X10.leave (v := some (.int (1 : Int32))) (fun h => by rw [Bd.returns] at h; cases h)
      refine ⟨_, _, pre11 _ ?_, hrun, hended, _, _, rfl, ?_, ⟨_, rfl⟩, hW, hsame.mono (by decide) (by decide)⟩
      · exact retN X10 hx (t := .boolean) Bd.returns (by simp) (hb hby at_154) hr
      · show Q_0 Z p1 p2 p3 p4 p5 aH aS aD h0 n0 _ T10.heap _
        rw [eq10]
        exact ⟨rfl, N10⟩
theorem own_fld {s : State} {args : Array Value} {t : Term} {a : Addr} {C n d : String} {k : Int32} (ev : t.eval args s none [] s = some (.ref a)) (h : (Jvm.Cond.eq (.field t C n d) (.int k)).value args s none s [] = some true) : Fld s s.heap a C n d (.int k) := by
  refine Fld.start ?_
  have e := fld_at (C := C) (n := n) (dd := d) ev
  simp only [Cond.value, e, Term.int_eval] at h
  cases hv : s.fieldOf? a C n d with
  | none => rw [hv] at h; cases h
  | some v =>
    rw [hv] at h
    cases v <;> simp at h
    rw [h]
theorem own_ne {s : State} {args : Array Value} {t u : Term} {a b : Addr} {C n d : String} {k k' : Int32} (ev : t.eval args s none [] s = some (.ref a)) (eu : u.eval args s none [] s = some (.ref b)) (h : (Jvm.Cond.eq (.field t C n d) (.int k)).value args s none s [] = some true) (h' : (Jvm.Cond.eq (.field u C n d) (.int k')).value args s none s [] = some true) (hk : k ≠ k') : a ≠ b := by
  rintro rfl
  have e := fld_at (C := C) (n := n) (dd := d) ev
  have e' := fld_at (C := C) (n := n) (dd := d) eu
  simp only [Cond.value, e, e', Term.int_eval] at h h'
  cases hv : s.fieldOf? a C n d with
  | none => rw [hv] at h; cases h
  | some v =>
    rw [hv] at h h'
    cases v <;> simp at h h'
    exact hk (h.symm.trans h')
set_option maxRecDepth 65536 in
set_option maxHeartbeats 40000000 in
theorem comes_1 {Post : Tables → Env → Array Value → State → Outcome → State → Prop} (hpost : ∀ tb e args s v u, (limb_1_1.after args s (.returned v) u = true ∧ limb_1_2.after args s (.returned v) u = true ∧ True) → FrameEnd s (.returned v) u (Jvm.fieldLocs frame_1_writes args s ++ Jvm.arrayLocs frame_1_arrays args s ++ Jvm.staticLocs frame_1_statics s) 0 0 → Post tb e args s (.returned v) u) :
    ArmFor flags0 classFile x code maxLocals ret World_1 tables_1 room_1 Calls_1 rest_1 Pre_1 Post := by
  intro l hfl _ _ p e ha hc hk s m args below hf hA hF happ hP
  obtain ⟨hcalls, hrest, hpre⟩ := hP
  obtain ⟨-, -, -, hnamed, -, -, -, hat⟩ := (Spec.applies_iff hf).mp happ
  obtain ⟨hg, hn⟩ := and_e (Cond.before_iff.mp (show (Jvm.Cond.and given_1 narrow_1).before args s = true from hpre))
  obtain ⟨gc, hg⟩ := and_e hg
  obtain ⟨gi0, hg⟩ := and_e hg
  obtain ⟨gi1, hg⟩ := and_e hg
  obtain ⟨gi2, hg⟩ := and_e hg
  obtain ⟨gi3, hg⟩ := and_e hg
  have gi4 := hg
  obtain ⟨w0, w1, w2, w3, w4, rfl⟩ : ∃ w0 w1 w2 w3 w4 : Value, args = #[w0, w1, w2, w3, w4] := by
    have hs : args.size = 5 := by simpa [Cond.value, given_1] using gc
    obtain ⟨L⟩ := args
    match L, hs with
    | [w0, w1, w2, w3, w4], _ => exact ⟨w0, w1, w2, w3, w4, rfl⟩
  have hw := fun d (hd : d ∈ tables_1) => atoms_spec (ws := Jvm.Cond.code x code maxLocals ret :: tables_1) hat d (List.mem_cons_of_mem _ hd)
  have hfit : Fit s := fun {y c} hc i hi => by
    obtain ⟨ha, rfl⟩ := Array.getElem?_eq_some_iff.mp hc
    have q := List.all_eq_true.mp ((Array.all_eq_true_iff_forall_mem.mp hF) _ (Array.getElem_mem ha)) i (List.mem_range.mpr hi)
    simpa [Array.getElem?_eq_getElem hi] using q
  obtain ⟨i0, ei0⟩ := is_v gi0
  obtain rfl : w0 = (.int i0) := Option.some.inj ei0
  obtain ⟨i1, ei1⟩ := is_v gi1
  obtain rfl : w1 = (.int i1) := Option.some.inj ei1
  obtain ⟨i2, ei2⟩ := is_v gi2
  obtain rfl : w2 = (.int i2) := Option.some.inj ei2
  obtain ⟨i3, ei3⟩ := isL_v gi3
  obtain rfl : w3 = (.long i3) := Option.some.inj ei3
  obtain ⟨i4, ei4⟩ := is_v gi4
  obtain rfl : w4 = (.int i4) := Option.some.inj ei4
  obtain ⟨xHALF, hn⟩ := and_e hn
  obtain ⟨xDOUBLE, hn⟩ := and_e hn
  obtain ⟨fHALF_ordinal, hn⟩ := and_e hn
  obtain ⟨fDOUBLE_ordinal, hn⟩ := and_e hn
  obtain ⟨fHALF_signShift, hn⟩ := and_e hn
  obtain ⟨fHALF_bias, hn⟩ := and_e hn
  obtain ⟨fHALF_droppedBits, hn⟩ := and_e hn
  obtain ⟨xSINGLE, hn⟩ := and_e hn
  obtain ⟨fSINGLE_ordinal, hn⟩ := and_e hn
  obtain ⟨fSINGLE_signShift, hn⟩ := and_e hn
  obtain ⟨fSINGLE_bias, hn⟩ := and_e hn
  obtain ⟨fSINGLE_droppedBits, hn⟩ := and_e hn
  obtain ⟨fSINGLE_specialExponent, hn⟩ := and_e hn
  obtain ⟨fSINGLE_fractionBits, hn⟩ := and_e hn
  obtain ⟨fHALF_specialExponent, hn⟩ := and_e hn
  obtain ⟨fHALF_fractionBits, hn⟩ := and_e hn
  obtain ⟨fDOUBLE_signShift, hn⟩ := and_e hn
  obtain ⟨fDOUBLE_bias, hn⟩ := and_e hn
  obtain ⟨fDOUBLE_droppedBits, hn⟩ := and_e hn
  obtain ⟨fDOUBLE_specialExponent, hn⟩ := and_e hn
  have fDOUBLE_fractionBits := hn
  obtain ⟨aH, evHALF⟩ := exa_v xHALF
  have SHALF : Sta s s.heap "com/example/samewire/samewire/FloatFormat" "HALF" "Lcom/example/samewire/samewire/FloatFormat;" (.ref aH) := Sta.start evHALF (Or.inr ⟨hw _ (List.mem_of_getElem? (i := 3) rfl), hw _ (List.mem_of_getElem? (i := 4) rfl)⟩)
  have EHALF : Exa s s.heap aH "com/example/samewire/samewire/FloatFormat" := Exa.start evHALF xHALF
  have FHALF_ss : Fld s s.heap aH "com/example/samewire/samewire/FloatFormat" "signShift" "I" (.int 15) := own_fld evHALF fHALF_signShift
  have FHALF_bi : Fld s s.heap aH "com/example/samewire/samewire/FloatFormat" "bias" "I" (.int 15) := own_fld evHALF fHALF_bias
  have FHALF_dr : Fld s s.heap aH "com/example/samewire/samewire/FloatFormat" "droppedBits" "I" (.int 42) := own_fld evHALF fHALF_droppedBits
  have FHALF_sp : Fld s s.heap aH "com/example/samewire/samewire/FloatFormat" "specialExponent" "I" (.int 31) := own_fld evHALF fHALF_specialExponent
  have FHALF_fr : Fld s s.heap aH "com/example/samewire/samewire/FloatFormat" "fractionBits" "I" (.int 10) := own_fld evHALF fHALF_fractionBits
  obtain ⟨aS, evSINGLE⟩ := exa_v xSINGLE
  have SSINGLE : Sta s s.heap "com/example/samewire/samewire/FloatFormat" "SINGLE" "Lcom/example/samewire/samewire/FloatFormat;" (.ref aS) := Sta.start evSINGLE (Or.inr ⟨hw _ (List.mem_of_getElem? (i := 3) rfl), hw _ (List.mem_of_getElem? (i := 26) rfl)⟩)
  have ESINGLE : Exa s s.heap aS "com/example/samewire/samewire/FloatFormat" := Exa.start evSINGLE xSINGLE
  have FSINGLE_ss : Fld s s.heap aS "com/example/samewire/samewire/FloatFormat" "signShift" "I" (.int 31) := own_fld evSINGLE fSINGLE_signShift
  have FSINGLE_bi : Fld s s.heap aS "com/example/samewire/samewire/FloatFormat" "bias" "I" (.int 127) := own_fld evSINGLE fSINGLE_bias
  have FSINGLE_dr : Fld s s.heap aS "com/example/samewire/samewire/FloatFormat" "droppedBits" "I" (.int 29) := own_fld evSINGLE fSINGLE_droppedBits
  have FSINGLE_sp : Fld s s.heap aS "com/example/samewire/samewire/FloatFormat" "specialExponent" "I" (.int 255) := own_fld evSINGLE fSINGLE_specialExponent
  have FSINGLE_fr : Fld s s.heap aS "com/example/samewire/samewire/FloatFormat" "fractionBits" "I" (.int 23) := own_fld evSINGLE fSINGLE_fractionBits
  obtain ⟨aD, evDOUBLE⟩ := exa_v xDOUBLE
  have SDOUBLE : Sta s s.heap "com/example/samewire/samewire/FloatFormat" "DOUBLE" "Lcom/example/samewire/samewire/FloatFormat;" (.ref aD) := Sta.start evDOUBLE (Or.inr ⟨hw _ (List.mem_of_getElem? (i := 3) rfl), hw _ (List.mem_of_getElem? (i := 11) rfl)⟩)
  have EDOUBLE : Exa s s.heap aD "com/example/samewire/samewire/FloatFormat" := Exa.start evDOUBLE xDOUBLE
  have neH : aH ≠ aD := own_ne evHALF evDOUBLE fHALF_ordinal fDOUBLE_ordinal (by decide)
  have neS : aS ≠ aD := own_ne evSINGLE evDOUBLE fSINGLE_ordinal fDOUBLE_ordinal (by decide)
  obtain ⟨n, o, h1, h2, h3, _, L, rfl, ⟨rfl, N⟩, hq⟩ := rm_0 l s _ hw tables_1 i0 i1 i2 i3 i4 aH aS aD s.heap s.heap.size (Nat.le_refl _) SHALF EHALF SSINGLE ESINGLE SDOUBLE EDOUBLE neH neS FHALF_ss FHALF_bi FHALF_dr FHALF_sp FHALF_fr FSINGLE_ss FSINGLE_bi FSINGLE_dr FSINGLE_sp FSINGLE_fr p e ha hc hk s m _ below hf ((Spec.applies_iff_loose hf).mp happ).1 ⟨rfl, State.Warmed39.refl s, rfl⟩ trivial
  refine ⟨n, _, h1, h2, h3, hpost _ _ _ _ _ _ ⟨Cond.after_iff.mpr rfl, Cond.after_iff.mpr (eq_i res_at (Term.int_eval (1)) rfl), trivial⟩ ⟨hq.1, hq.2.1, (hq.2.2.sift fun y hy => Or.inr (N y hy)).mono (by decide) (by decide)⟩⟩
theorem main_1_1 : Claimed_1_1 := comes_1 fun _ _ _ _ _ _ h hF => ⟨h.1, hF⟩
theorem main_1_2 : Claimed_1_2 := comes_1 fun _ _ _ _ _ _ h hF => ⟨h.2.1, hF⟩
end Jvm.Pilot.@@N@@
namespace Jvm.Pilot.@@N@@
open Jvm Jvm.ClassFile Sem Op Lib Jvm.Free Jvm.Stand Jvm.Pilot.@@N@@.Jvm.D
/-! MADE BY PROGRAM (witnessworld.py) out of the Statement's table words and the real class files: 12 classes; the members and pool entries that the words name. The judged class is class 1, her method 1. -/
namespace start1
open Jvm.ClassFile
def u (s : String) : CpInfo := .utf8 (stringToUtf16 s)
/-- a pool by its gaps: so many unusable entries, then the entry; so many at the end -/
def gap : Nat → List CpInfo → List CpInfo
  | 0, r => r
  | n + 1, r => .unusable :: gap n r
def poolList (es : List (Nat × CpInfo)) (last : Nat) : List CpInfo := es.foldr (fun e r => gap e.1 (e.2 :: r)) (gap last [])
def pool (es : List (Nat × CpInfo)) (last : Nat) : Array CpInfo := ⟨poolList es last⟩
def fileOf (pool : Array CpInfo) (this : Nat) (attrs : Array Attribute := #[]) (ms : Array MethodInfo := #[]) (fl : Nat := 33) (sup : Nat := 0) (ifs : Array Nat := #[]) (fds : Array FieldInfo := #[]) : ClassFile where
  minorVersion := 0
  majorVersion := 65
  constantPool := pool
  accessFlags := fl
  thisClass := this
  superClass := sup
  interfaces := ifs
  fields := fds
  methods := ms
  attributes := attrs
def plain (name : String) (sup : Option ClassId) : Class where
  name := name
  kind := .ordinary
  loader := none
  accessFlags := 33
  super := sup
  interfaces := #[]
  cf := none
  fields := #[]
  methods := #[]
  instanceTypes := #[]
  staticTypes := #[]
  resolved := #[]
  callSites := []
  init := .initialized
  statics := none
  mirror := none

def pool0 : Array CpInfo := pool [(5, u "<init>"), (0, u "()V"), (1, .class_ 10), (1, u "java/lang/Object")] 113

def k0m0 : Method := { name := "<init>", desc := "()V", sig := { parameters := [], returnType := none }, accessFlags := 1, code := none }
/-- java/lang/Object -/
def k0 : Class := { plain "java/lang/Object" none with
  accessFlags := 33
  interfaces := #[]
  cf := some (fileOf pool0 8 #[] #[{ accessFlags := 1, nameIndex := 5, descriptorIndex := 6, attributes := #[] }] 33 0 #[] #[])
  fields := #[]
  methods := #[k0m0]
  instanceTypes := #[]
  staticTypes := #[]
  resolved := Array.replicate 124 none
  statics := none }

def pool1 : Array CpInfo := pool [(2, .class_ 4), (1, u "java/lang/Object"), (0, u "<init>"), (0, u "()V"), (0, .integer 2147483647), (0, .long 4503599627370495), (1, .fieldref 11 12), (0, .class_ 13), (0, .nameAndType 14 15), (0, u "com/example/samewire/samewire/FloatFormat"), (0, u "HALF"), (0, u "Lcom/example/samewire/samewire/FloatFormat;"), (0, .fieldref 11 17), (0, .nameAndType 18 15), (0, u "SINGLE"), (0, .fieldref 11 20), (0, .nameAndType 21 15), (0, u "DOUBLE"), (0, .methodref 11 23), (0, .nameAndType 24 25), (0, u "narrow"), (0, u "(J)J"), (0, .methodref 27 28), (0, .class_ 29), (0, .nameAndType 30 31), (0, u "com/example/samewire/samewire/FloatFormatNarrowPinLaw"), (0, u "expected"), (0, u "(IJIJJ)J"), (0, .long 9223372036854775807), (1, .long 4503599627370496), (3, u "law"), (0, u "(IIIJI)Z")] 3

def k1m0 : Method := { name := "<init>", desc := "()V", sig := { parameters := [], returnType := none }, accessFlags := 1, code := none }
def k1c1 : Code := { maxStack := 10, maxLocals := 16, code := code, exceptionTable := #[], attributes := #[] }
def k1m1 : Method := { name := "law", desc := "(IIIJI)Z", sig := { parameters := [.int, .int, .int, .long, .int], returnType := some .boolean }, accessFlags := 9, code := some k1c1 }
def k1c2 : Code := { maxStack := 7, maxLocals := 19, code := method_3_code, exceptionTable := #[], attributes := #[] }
def k1m2 : Method := { name := "expected", desc := "(IJIJJ)J", sig := { parameters := [.int, .long, .int, .long, .long], returnType := some .long }, accessFlags := 10, code := some k1c2 }
/-- com/example/samewire/samewire/FloatFormatNarrowPinLaw -/
def k1 : Class := { plain "com/example/samewire/samewire/FloatFormatNarrowPinLaw" (some 0) with
  accessFlags := 49
  interfaces := #[]
  cf := some (fileOf pool1 27 #[] #[{ accessFlags := 1, nameIndex := 5, descriptorIndex := 6, attributes := #[] }, { accessFlags := 9, nameIndex := 38, descriptorIndex := 39, attributes := #[] }, { accessFlags := 10, nameIndex := 30, descriptorIndex := 31, attributes := #[] }] 49 2 #[] #[])
  fields := #[]
  methods := #[k1m0, k1m1, k1m2]
  instanceTypes := #[]
  staticTypes := #[]
  resolved := Array.replicate 43 none
  statics := none }

def pool2 : Array CpInfo := pool [(1, .class_ 2), (0, u "java/lang/constant/Constable"), (0, .class_ 4), (0, u "java/lang/Object")] 6

/-- java/lang/constant/Constable -/
def k2 : Class := { plain "java/lang/constant/Constable" (some 0) with
  accessFlags := 1537
  interfaces := #[]
  cf := some (fileOf pool2 1 #[] #[] 1537 3 #[] #[])
  fields := #[]
  methods := #[]
  instanceTypes := #[]
  staticTypes := #[]
  resolved := Array.replicate 11 none
  statics := none }

def pool3 : Array CpInfo := pool [(1, .class_ 2), (0, u "java/lang/Comparable"), (0, .class_ 4), (0, u "java/lang/Object")] 7

/-- java/lang/Comparable -/
def k3 : Class := { plain "java/lang/Comparable" (some 0) with
  accessFlags := 1537
  interfaces := #[]
  cf := some (fileOf pool3 1 #[] #[] 1537 3 #[] #[])
  fields := #[]
  methods := #[]
  instanceTypes := #[]
  staticTypes := #[]
  resolved := Array.replicate 12 none
  statics := none }

def pool4 : Array CpInfo := pool [(1, .class_ 2), (0, u "java/io/Serializable"), (0, .class_ 4), (0, u "java/lang/Object")] 2

/-- java/io/Serializable -/
def k4 : Class := { plain "java/io/Serializable" (some 0) with
  accessFlags := 1537
  interfaces := #[]
  cf := some (fileOf pool4 1 #[] #[] 1537 3 #[] #[])
  fields := #[]
  methods := #[]
  instanceTypes := #[]
  staticTypes := #[]
  resolved := Array.replicate 7 none
  statics := none }

def pool5 : Array CpInfo := pool [(2, .class_ 4), (1, u "java/lang/Enum"), (0, u "name"), (0, u "Ljava/lang/String;"), (2, u "ordinal"), (0, u "I"), (1, .class_ 14), (1, u "java/lang/Object"), (4, u "hash"), (86, .class_ 108), (1, u "java/lang/Enum$EnumDesc"), (2, .class_ 112), (0, u "java/lang/constant/Constable"), (0, .class_ 114), (0, u "java/lang/Comparable"), (0, .class_ 116), (0, u "java/io/Serializable")] 87

/-- java/lang/Enum -/
def k5 : Class := { plain "java/lang/Enum" (some 0) with
  accessFlags := 1057
  interfaces := #[2, 3, 4]
  cf := some (fileOf pool5 2 #[.nestMembers #[106]] #[] 1057 12 #[111, 113, 115] #[{ accessFlags := 18, nameIndex := 5, descriptorIndex := 6, attributes := #[] }, { accessFlags := 18, nameIndex := 9, descriptorIndex := 10, attributes := #[] }, { accessFlags := 2, nameIndex := 19, descriptorIndex := 10, attributes := #[] }])
  fields := #[{ name := "name", type := (.object "java/lang/String"), accessFlags := 18, slot := 0, constantValue := 0 }, { name := "ordinal", type := .int, accessFlags := 18, slot := 1, constantValue := 0 }, { name := "hash", type := .int, accessFlags := 2, slot := 2, constantValue := 0 }]
  methods := #[]
  instanceTypes := #[(.object "java/lang/String"), .int, .int]
  staticTypes := #[]
  resolved := Array.replicate 204 none
  statics := none }

def pool6 : Array CpInfo := pool [(1, .class_ 2), (0, u "com/example/samewire/samewire/FloatFormat"), (2, u "HALF"), (0, u "Lcom/example/samewire/samewire/FloatFormat;"), (2, u "SINGLE"), (0, .fieldref 1 11), (0, .nameAndType 12 6), (0, u "DOUBLE"), (2, u "$VALUES"), (0, u "[Lcom/example/samewire/samewire/FloatFormat;"), (6, .class_ 25), (1, u "java/lang/Enum"), (8, u "additionalInfo"), (0, u "I"), (0, .fieldref 1 37), (0, .nameAndType 38 35), (0, u "fractionBits"), (0, .fieldref 1 40), (0, .nameAndType 41 35), (0, u "signShift"), (0, .fieldref 1 43), (0, .nameAndType 44 35), (0, u "bias"), (0, .fieldref 1 46), (0, .nameAndType 47 35), (0, u "specialExponent"), (0, .fieldref 1 49), (0, .nameAndType 50 35), (0, u "droppedBits"), (19, u "narrow"), (0, u "(J)J"), (3, .long 4503599627370495), (1, .long 4503599627370496), (18, u "DOUBLE_FRACTION_BITS"), (2, u "DOUBLE_FRACTION_MASK"), (0, u "J"), (0, u "DOUBLE_BIAS"), (1, u "DOUBLE_SPECIAL_EXPONENT")] 18

def k6c0 : Code := { maxStack := 5, maxLocals := 12, code := prog_23_method_8_code, exceptionTable := #[], attributes := #[] }
def k6m0 : Method := { name := "narrow", desc := "(J)J", sig := { parameters := [.long], returnType := some .long }, accessFlags := 0, code := some k6c0 }
/-- com/example/samewire/samewire/FloatFormat -/
def k6 : Class := { plain "com/example/samewire/samewire/FloatFormat" (some 5) with
  accessFlags := 16432
  interfaces := #[]
  cf := some (fileOf pool6 1 #[] #[{ accessFlags := 0, nameIndex := 70, descriptorIndex := 71, attributes := #[] }] 16432 23 #[] #[{ accessFlags := 16409, nameIndex := 5, descriptorIndex := 6, attributes := #[] }, { accessFlags := 16409, nameIndex := 9, descriptorIndex := 6, attributes := #[] }, { accessFlags := 16409, nameIndex := 12, descriptorIndex := 6, attributes := #[] }, { accessFlags := 26, nameIndex := 96, descriptorIndex := 35, attributes := #[] }, { accessFlags := 26, nameIndex := 99, descriptorIndex := 100, attributes := #[] }, { accessFlags := 26, nameIndex := 101, descriptorIndex := 35, attributes := #[] }, { accessFlags := 26, nameIndex := 103, descriptorIndex := 35, attributes := #[] }, { accessFlags := 18, nameIndex := 34, descriptorIndex := 35, attributes := #[] }, { accessFlags := 18, nameIndex := 38, descriptorIndex := 35, attributes := #[] }, { accessFlags := 18, nameIndex := 41, descriptorIndex := 35, attributes := #[] }, { accessFlags := 18, nameIndex := 44, descriptorIndex := 35, attributes := #[] }, { accessFlags := 18, nameIndex := 47, descriptorIndex := 35, attributes := #[] }, { accessFlags := 18, nameIndex := 50, descriptorIndex := 35, attributes := #[] }, { accessFlags := 4122, nameIndex := 15, descriptorIndex := 16, attributes := #[] }])
  fields := #[{ name := "HALF", type := (.object "com/example/samewire/samewire/FloatFormat"), accessFlags := 16409, slot := 0, constantValue := 0 }, { name := "SINGLE", type := (.object "com/example/samewire/samewire/FloatFormat"), accessFlags := 16409, slot := 1, constantValue := 0 }, { name := "DOUBLE", type := (.object "com/example/samewire/samewire/FloatFormat"), accessFlags := 16409, slot := 2, constantValue := 0 }, { name := "DOUBLE_FRACTION_BITS", type := .int, accessFlags := 26, slot := 3, constantValue := 0 }, { name := "DOUBLE_FRACTION_MASK", type := .long, accessFlags := 26, slot := 4, constantValue := 0 }, { name := "DOUBLE_BIAS", type := .int, accessFlags := 26, slot := 5, constantValue := 0 }, { name := "DOUBLE_SPECIAL_EXPONENT", type := .int, accessFlags := 26, slot := 6, constantValue := 0 }, { name := "additionalInfo", type := .int, accessFlags := 18, slot := 3, constantValue := 0 }, { name := "fractionBits", type := .int, accessFlags := 18, slot := 4, constantValue := 0 }, { name := "signShift", type := .int, accessFlags := 18, slot := 5, constantValue := 0 }, { name := "bias", type := .int, accessFlags := 18, slot := 6, constantValue := 0 }, { name := "specialExponent", type := .int, accessFlags := 18, slot := 7, constantValue := 0 }, { name := "droppedBits", type := .int, accessFlags := 18, slot := 8, constantValue := 0 }, { name := "$VALUES", type := (.array (.object "com/example/samewire/samewire/FloatFormat")), accessFlags := 4122, slot := 7, constantValue := 0 }]
  methods := #[k6m0]
  instanceTypes := #[(.object "java/lang/String"), .int, .int, .int, .int, .int, .int, .int, .int]
  staticTypes := #[(.object "com/example/samewire/samewire/FloatFormat"), (.object "com/example/samewire/samewire/FloatFormat"), (.object "com/example/samewire/samewire/FloatFormat"), .int, .long, .int, .int, (.array (.object "com/example/samewire/samewire/FloatFormat"))]
  resolved := Array.replicate 122 none
  statics := some 0 }

def pool7 : Array CpInfo := pool [(1, u "java/lang/Cloneable"), (0, .class_ 1), (0, u "java/lang/Object"), (0, .class_ 3)] 3

/-- java/lang/Cloneable -/
def k7 : Class := { plain "java/lang/Cloneable" (some 0) with
  accessFlags := 1537
  interfaces := #[]
  cf := some (fileOf pool7 2 #[] #[] 1537 4 #[] #[])
  fields := #[]
  methods := #[]
  instanceTypes := #[]
  staticTypes := #[]
  resolved := Array.replicate 8 none
  statics := none }

/-- the primitive byte -/
def k8 : Class := { plain "byte" none with kind := .primitive 'B', accessFlags := 0x411 }
/-- [B -/
def k9 : Class := { plain "[B" (some 0) with kind := .array 8 .byte, interfaces := #[7, 4], accessFlags := 1041 }

/-- the primitive int -/
def k10 : Class := { plain "int" none with kind := .primitive 'I', accessFlags := 0x411 }
/-- [I -/
def k11 : Class := { plain "[I" (some 0) with kind := .array 10 .int, interfaces := #[7, 4], accessFlags := 1041 }

def heap : Heap := #[{ cls := 6, slots := #[.ref 1, .ref 2, .ref 3, .int 0, .long 0, .int 0, .int 0, .null], vm := .statics 6 },
  { cls := 6, slots := #[.null, .int 0, .int 0, .int 0, .int 10, .int 15, .int 15, .int 31, .int 42], vm := .none },
  { cls := 6, slots := #[.null, .int 1, .int 0, .int 0, .int 23, .int 31, .int 127, .int 255, .int 29], vm := .none },
  { cls := 6, slots := #[.null, .int 2, .int 0, .int 0, .int 52, .int 63, .int 1023, .int 2047, .int 0], vm := .none }]
def classes : Array Class := #[k0, k1, k2, k3, k4, k5, k6, k7, k8, k9, k10, k11]
def interned : List (Array UInt16 × Addr) := []
def slotsUsed : Nat := 35
def theMethod : MethodId := ⟨1, 1⟩
def args0 : Array Value := #[.int 5, .int 1, .int 2, .long 3, .int 1]
def aboutOver (below : List Frame) : State where
  vm := { classes := classes, interned := interned.toArray }
  heap := heap
  slotsUsed := slotsUsed
  threads := #[{ frames := .invoking theMethod args0 :: below }]
def below0 : List Frame := [.native { method := ⟨0, 0⟩, args := #[] }]
def about1 : State := aboutOver below0
def p0 : Program := .bare "" "" ""
def e0 : Env := launch0.env 0 0 0
theorem w_frames : about1.frames = Frame.invoking theMethod args0 :: below0 := rfl
set_option maxRecDepth 65536 in
theorem w_args : argsFit about1.vm theMethod args0 = true := by decide +kernel
set_option maxRecDepth 65536 in
theorem w_heap : heapFits about1 = true := by decide +kernel
set_option maxRecDepth 65536 in
theorem w_runnable : about1.curStatus? = some .runnable := by decide +kernel
set_option maxRecDepth 65536 in
theorem w_alone : about1.alone = true := by decide +kernel
set_option maxRecDepth 65536 in
theorem w_named : about1.methodNamed? x = some theMethod := by decide +kernel
set_option maxRecDepth 65536 in
theorem w_hears : about1.hears theMethod below0 = true := by decide +kernel
set_option maxRecDepth 65536 in
theorem w_ripe : about1.ripe theMethod args0 below0 = true := by decide +kernel
theorem w_running : about1.status = .running := rfl
set_option maxRecDepth 65536 in
theorem w_room : about1.hasRoom e0.platform room_1 = true :=
  launch0.hasRoom_least _ room_1 (by decide +kernel) (by decide +kernel) (by decide +kernel) (by decide +kernel) (by decide +kernel) (by decide +kernel)
theorem allAtoms_all (ts : List Jvm.Cond) (a : Array Jvm.Value) (st : Jvm.State) : (allAtoms ts).before a st = ts.all (fun c => c.before a st) := by
  induction ts with
  | nil => rfl
  | cons c t ih =>
    show (Jvm.Cond.and c (allAtoms t)).before a st = _
    rw [Jvm.Cond.before_and, ih, List.all_cons]
def words1 : List Jvm.Cond := Jvm.Cond.code x code maxLocals ret :: tables_1
/-- a 'code' word, met by the world's own term for the bytes: nothing is compared byte by byte -/
theorem code_word {y : MethodName} {bytes : ByteArray} {mx : Nat} {rt : Option FieldType} {a : Array Value} {s : State} {m : MethodId} {meth : Method} {c : Code} (h1 : s.methodNamed? y = some m) (h2 : s.vm.method? m = some meth) (h3 : meth.code = some c) (h4 : c.code = bytes)
    (h5 : (c.maxLocals == mx && c.exceptionTable.isEmpty && decide (c.maxStack ≤ mostOperands) && decide (meth.sig.returnType = rt) && !meth.locks && decide (parseMethodDescriptor y.desc = some meth.sig)) = true) : (Jvm.Cond.code y bytes mx rt).before a s = true := by
  simp only [Bool.and_eq_true, beq_iff_eq, Bool.not_eq_true', decide_eq_true_eq] at h5
  obtain ⟨⟨⟨⟨⟨g1, g2⟩, g3⟩, g4⟩, g5⟩, g6⟩ := h5
  simp [Cond.before, Cond.holds, Cond.value, h1, h2, h3, h4, g1, g2, g3, g4, g5, g6]
def isCode : Jvm.Cond → Bool
  | .code _ _ _ _ => true
  | _ => false
theorem all_split {L : List Jvm.Cond} {P : Jvm.Cond → Bool} (h1 : L.all (fun c => isCode c || P c) = true) (h2 : ∀ c ∈ L.filter isCode, P c = true) : L.all P = true := by
  refine List.all_eq_true.mpr fun c hc => ?_
  have h := List.all_eq_true.mp h1 c hc
  rcases Bool.eq_false_or_eq_true (isCode c) with hi | hi
  · exact h2 c (List.mem_filter.mpr ⟨hc, hi⟩)
  · simpa [hi] using h
set_option maxRecDepth 65536 in
theorem w_c0 : (Jvm.Cond.code x code maxLocals ret).before args0 about1 = true := code_word (m := ⟨1, 1⟩) (meth := k1m1) (c := k1c1) (by decide +kernel) rfl rfl rfl (by decide +kernel)
set_option maxRecDepth 65536 in
theorem w_c1 : (Jvm.Cond.code ({ cls := "com/example/samewire/samewire/FloatFormat", name := "narrow", desc := "(J)J" } : Jvm.MethodName) prog_23_method_8_code (12 : Nat) (Option.some Jvm.ClassFile.FieldType.long)).before args0 about1 = true := code_word (m := ⟨6, 0⟩) (meth := k6m0) (c := k6c0) (by decide +kernel) rfl rfl rfl (by decide +kernel)
set_option maxRecDepth 65536 in
theorem w_c2 : (Jvm.Cond.code ({ cls := "com/example/samewire/samewire/FloatFormatNarrowPinLaw", name := "expected", desc := "(IJIJJ)J" } : Jvm.MethodName) method_3_code (19 : Nat) (Option.some Jvm.ClassFile.FieldType.long)).before args0 about1 = true := code_word (m := ⟨1, 2⟩) (meth := k1m2) (c := k1c2) (by decide +kernel) rfl rfl rfl (by decide +kernel)
def codes1 : List Jvm.Cond := [Jvm.Cond.code x code maxLocals ret, Jvm.Cond.code ({ cls := "com/example/samewire/samewire/FloatFormat", name := "narrow", desc := "(J)J" } : Jvm.MethodName) prog_23_method_8_code (12 : Nat) (Option.some Jvm.ClassFile.FieldType.long), Jvm.Cond.code ({ cls := "com/example/samewire/samewire/FloatFormatNarrowPinLaw", name := "expected", desc := "(IJIJJ)J" } : Jvm.MethodName) method_3_code (19 : Nat) (Option.some Jvm.ClassFile.FieldType.long)]
set_option maxRecDepth 65536 in
theorem codes_eq : words1.filter isCode = codes1 := rfl
theorem w_codes : ∀ c ∈ words1.filter isCode, c.before args0 about1 = true := by
  rw [codes_eq]
  intro c hc
  simp only [codes1, List.mem_cons, List.not_mem_nil, or_false] at hc
  rcases hc with rfl | rfl | rfl
  · exact w_c0
  · exact w_c1
  · exact w_c2
set_option maxRecDepth 65536 in
theorem w_t1 : (words1.take 24).all (fun c => isCode c || c.before args0 about1) = true := by decide +kernel
set_option maxRecDepth 65536 in
theorem w_t2 : (words1.drop 24).all (fun c => isCode c || c.before args0 about1) = true := by decide +kernel
theorem w_tables : (allAtoms (Jvm.Cond.code x code maxLocals ret :: tables_1)).before args0 about1 = true := by
  rw [allAtoms_all]
  show words1.all (fun c => c.before args0 about1) = true
  refine all_split ?_ w_codes
  rw [← List.take_append_drop 24 words1, List.all_append, w_t1, w_t2]
  rfl
set_option maxRecDepth 65536 in
theorem w_case : (Jvm.Cond.and given_1 narrow_1).before args0 about1 = true := by decide +kernel
theorem w_applies : (headSpec (Jvm.Cond.code x code maxLocals ret :: tables_1) room_1).applies x e0.platform about1 = true :=
  (Spec.applies_iff w_frames).mpr ⟨w_running, w_runnable, w_alone, w_named, w_hears, w_ripe, w_room, w_tables⟩
theorem atStart : AtStart classFile x code maxLocals ret World_1 tables_1 room_1 Calls_1 rest_1 Pre_1 launch0 p0 e0 about1 theMethod args0 below0 :=
  ⟨lists_1, trivial, launch0.admits_env _ _ _, launch0.least_env, fairChoices_fair.cas, fairChoices_fair.clock, w_frames, w_args, w_heap, w_applies, trivial, trivial, w_case⟩
end start1
theorem witness_1 : WitnessClaimed_1 := ⟨start1.p0, start1.e0, start1.about1, start1.theMethod, start1.args0, start1.below0, start1.atStart⟩
end Jvm.Pilot.@@N@@
