import JvmDerived
import JvmDerived.Pilot.@@N@@Statement
import JvmDerived.Pilot.@@N@@Code
set_option linter.unusedVariables false
set_option linter.unusedSimpArgs false
namespace Jvm.RoadKit
open Sem ClassFile Op Lib Jvm.Stand Jvm.Free Jvm.LawKit
section New
variable {p : Program} {l : Launch} {e : Env} {R : Room} {s : State} {m : MethodId} {args : Array Value} {below : List Frame} {meth : Method} {c : Code} {T : State} {locs : List Loc} {cells slots : Nat}
theorem retI (X : Stand p l e R s m args below meth c T locs cells slots) (hx : p.tables.exec = Jvm.exec) {pc : Nat} {Ls : Array Slot} {z : Int32} {rest : List Value} (hret : meth.sig.returnType = some .int) (hd : decode c.code pc = .ok (.ireturn, 1)) {fs : List Frame}
    (hl : ∀ (f : JFrame) (acts : List Action), f.method = m → f.locked = none → f.entered = [] → (doReturn e (T.setTop f) acts (some (.int z))).1 = T.setFrames fs) : Steps p.tables e below (T.setTop (mkF m pc Ls (.int z :: rest))) (T.setFrames fs) := by
  have hm' : T.vm.method? m = some meth := X.method'
  have hn : narrow .int (.int z) = .int z := rfl
  show Steps p.tables e below (T.setTop { method := m, pc := pc, locals := Ls, stack := _ :: rest, locked := none }) _
  jvm_step X.here [X.here.top, hx, hd, hm', hret, hn]
  first | (intro acts; rw [hl _ acts rfl rfl rfl]) | rw [hl _ _ rfl rfl rfl]
  exact Steps.refl _
end New
end Jvm.RoadKit
namespace Jvm.Pilot.@@N@@
open Jvm Jvm.ClassFile Sem Op Lib Jvm.Free Jvm.Stand Jvm.LawKit Jvm.RoadKit Bundle Jvm.Pilot.@@N@@.Jvm.D
theorem own_irem (x y : Int32) : x - (x / y) * y = x % y := by
  apply Int32.toInt_inj.mp
  have a := (x % y).toInt_lt; have b := (x % y).le_toInt
  rw [Int32.toInt_mod] at a b ⊢
  rw [Int32.toInt_sub, Int32.toInt_mul, Int32.toInt_div, Int.bmod_mul_bmod, Int.sub_bmod_bmod, Int.mul_comm, ← Int.tmod_def]
  exact Int.bmod_eq_of_le (by omega) (by omega)
theorem own_ns_exa {Z : State} {h : Heap} {a : Addr} {C : String} (F : Exa Z h a C) : ∀ c : Cell, h[a]? = some c → c.vm.isStatics = false := fun c hc => by
  obtain ⟨cell, k, h1, -, -, h4, -⟩ := F
  cases h1.symm.trans hc; exact h4
theorem own_sta_keep {Z : State} {h h' : Heap} {C n d : String} {v : Value} {ws : List Addr} (F : Sta Z h C n d v) (K : Keep h h' ws) (q : ∀ x ∈ ws, ∀ c : Cell, h[x]? = some c → c.vm.isStatics = false) : Sta Z h' C n d v := by
  obtain ⟨cf, i, k, f, st, cell, h1, h2, h3, h4, h5, h6, h7⟩ := F
  refine ⟨cf, i, k, f, st, cell, h1, h2, h3, h4, K.2.1 st cell h5 (fun hm => ?_), h6, h7⟩
  rw [q st hm cell h5] at h6; cases h6
def own_max (x y : Int32) : Int32 := if x < y then y else x
def own_first (c0 c1 c2 c3 c4 c5 k : Int32) : Int32 := if c0 = k then 0 else if c1 = k then 1 else if c2 = k then 2 else if c3 = k then 3 else if c4 = k then 4 else if c5 = k then 5 else -1
def own_r (n : Nat) (c0 c1 c2 c3 c4 c5 : Int32) : List Value := ((((((List.replicate n (.int 0)).set c5.toNatClampNeg (.int 5)).set c4.toNatClampNeg (.int 4)).set c3.toNatClampNeg (.int 3)).set c2.toNatClampNeg (.int 2)).set c1.toNatClampNeg (.int 1)).set c0.toNatClampNeg (.int 0)
theorem dmax_0 : decode jdk_29_method_65_code 0 = .ok (.iload_n 0, 1) := by decide +kernel
theorem dmax_1 : decode jdk_29_method_65_code 1 = .ok (.iload_n 1, 1) := by decide +kernel
theorem dmax_2 : decode jdk_29_method_65_code 2 = .ok (.if_icmp .lt 7, 3) := by decide +kernel
theorem dmax_5 : decode jdk_29_method_65_code 5 = .ok (.iload_n 0, 1) := by decide +kernel
theorem dmax_6 : decode jdk_29_method_65_code 6 = .ok (.goto 4, 3) := by decide +kernel
theorem dmax_9 : decode jdk_29_method_65_code 9 = .ok (.iload_n 1, 1) := by decide +kernel
theorem dmax_10 : decode jdk_29_method_65_code 10 = .ok (.ireturn, 1) := by decide +kernel
theorem pn_max : plainFor (⟨"java/lang/Math", "max", "(II)I"⟩ : MethodName) = true := by decide +kernel
theorem ef_max (m : MethodId) (p1 : Int32) (p2 : Int32) : entryFrame m #[(.int p1), (.int p2)] 2 = (mkF m 0 #[.val (.int p1), .val (.int p2)] []) := by first | (simp [entryFrame, mkF, argsToLocals, Value.category]; done) | rfl
def Q_max (Z : State) (p1 p2 : Int32) (h0 : Heap) (n0 : Nat) (v : Option Value) (h : Heap) (L : List Loc) : Prop := v = some (.int (own_max p1 p2)) ∧ Fr n0 L ∧ h = h0
set_option maxRecDepth 65536 in
set_option maxHeartbeats 40000000 in
theorem rm_max (l : Launch) (Z : State) (a0 : Array Value) (hw : ∀ d ∈ tables_1, d.before a0 Z = true) (ws : List Jvm.Cond) (p1 p2 : Int32) (h0 : Heap) (n0 : Nat) (Z0 : n0 ≤ h0.size)  :
    MetFree l (⟨"java/lang/Math", "max", "(II)I"⟩ : MethodName) (head1 (Jvm.Cond.code (⟨"java/lang/Math", "max", "(II)I"⟩ : MethodName) jdk_29_method_65_code 2 (some .int) :: ws) ({ frames := 0, cells := 0, slots := 0, locals := 0 } : Room)) (fun a U => a = #[(.int p1), (.int p2)] ∧ Z.Warmed39 U.vm ∧ U.heap = h0) (fun _ _ _ _ _ => True) (fun _ U o U' => ∃ v L, o = .returned v ∧ Q_max Z p1 p2 h0 n0 v U'.heap L ∧ FrameEnd U o U' L ({ frames := 0, cells := 0, slots := 0, locals := 0 } : Room).cells ({ frames := 0, cells := 0, slots := 0, locals := 0 } : Room).slots) := by
  refine MetFree.of_bodySF pn_max hisR ?_
  intro p e s m args below meth c s₁ Bd hml0 hP hK
  obtain ⟨rfl, hZ, hh⟩ := hP
  have hx := Bd.exec
  have hby := Bd.bytes
  have hml : c.maxLocals = 2 := hml0
  have hown : s.vm.findClass "java/lang/Math" = some m.cls := findClass_of_methodNamed Bd.named
  have hnm := (name_of_methodNamed Bd.named Bd.method).1
  have X0 : Stand p l e ({ frames := 0, cells := 0, slots := 0, locals := 0 } : Room) s m #[(.int p1), (.int p2)] below meth c s₁ [] 0 0 := Stand.of_body Bd
  have e0 : s₁.heap = h0 := by rw [← hh, Bd.state]; rfl
  have N0 := Fr.nil n0
  have pre0 : ∀ t, Steps p.tables e below (s₁.setTop (mkF m 0 #[.val (.int p1), .val (.int p2)] [])) t → Steps p.tables e below (s₁.setTop (entryFrame m #[(.int p1), (.int p2)] 2)) t := fun t k => castTop (ef_max m p1 p2) k
  have pre2 : ∀ t, Steps p.tables e below (s₁.setTop (mkF m 2 #[.val (.int p1), .val (.int p2)] [(.int p2), (.int p1)])) t → Steps p.tables e below (s₁.setTop (entryFrame m #[(.int p1), (.int p2)] 2)) t := fun t k => pre0 t (by
    show Steps p.tables e below (s₁.setTop (mkF m 0 #[.val (.int p1), .val (.int p2)] [])) _
    refine XS.iloadN X0.here hx rfl (hb hby dmax_0) rfl ?_
    show Steps p.tables e below (s₁.setTop (mkF m 1 #[.val (.int p1), .val (.int p2)] [(.int p1)])) _
    refine XS.iloadN X0.here hx rfl (hb hby dmax_1) rfl ?_
    show Steps p.tables e below (s₁.setTop (mkF m 2 #[.val (.int p1), .val (.int p2)] [(.int p2), (.int p1)])) _
    exact k)
  by_cases hc : p1 < p2
  · skip
    have hm : own_max p1 p2 = p2 := if_pos hc
    have pre3 : ∀ t, Steps p.tables e below (s₁.setTop (mkF m 10 #[.val (.int p1), .val (.int p2)] [(.int p2)])) t → Steps p.tables e below (s₁.setTop (entryFrame m #[(.int p1), (.int p2)] 2)) t := fun t k => pre2 t (by
      show Steps p.tables e below (s₁.setTop (mkF m 2 #[.val (.int p1), .val (.int p2)] [(.int p2), (.int p1)])) _
      refine XS.icmpYes X0.here hx rfl (pc0 := 2) (pc' := 9) rfl (hb hby dmax_2) rfl (XT.ii_lt_t hc) (by decide) (by decide) ?_
      show Steps p.tables e below (s₁.setTop (mkF m 9 #[.val (.int p1), .val (.int p2)] [])) _
      refine XS.iloadN X0.here hx rfl (hb hby dmax_9) rfl ?_
      show Steps p.tables e below (s₁.setTop (mkF m 10 #[.val (.int p1), .val (.int p2)] [(.int p2)])) _
      exact k)
    obtain ⟨fs, hr, hrun, hended, hW, hsame⟩ := X0.leave (v := some (.int p2)) (fun h => by rw [Bd.returns] at h; cases h)
    refine ⟨_, _, pre3 _ ?_, hrun, hended, _, _, rfl, ?_, ⟨_, rfl⟩, hW, hsame.mono (by decide) (by decide)⟩
    · exact retI X0 hx Bd.returns (hb hby dmax_10) hr
    · show Q_max Z p1 p2 h0 n0 _ s₁.heap _
      unfold Q_max; rw [hm]
      rw [e0]
      exact ⟨rfl, N0, rfl⟩
  · skip
    have hm : own_max p1 p2 = p1 := if_neg hc
    have pre3 : ∀ t, Steps p.tables e below (s₁.setTop (mkF m 10 #[.val (.int p1), .val (.int p2)] [(.int p1)])) t → Steps p.tables e below (s₁.setTop (entryFrame m #[(.int p1), (.int p2)] 2)) t := fun t k => pre2 t (by
      show Steps p.tables e below (s₁.setTop (mkF m 2 #[.val (.int p1), .val (.int p2)] [(.int p2), (.int p1)])) _
      refine XS.icmpNo X0.here hx rfl (hb hby dmax_2) rfl (XT.ii_lt_f hc) ?_
      show Steps p.tables e below (s₁.setTop (mkF m 5 #[.val (.int p1), .val (.int p2)] [])) _
      refine XS.iloadN X0.here hx rfl (hb hby dmax_5) rfl ?_
      show Steps p.tables e below (s₁.setTop (mkF m 6 #[.val (.int p1), .val (.int p2)] [(.int p1)])) _
      refine XS.goto X0.here hx rfl (pc0 := 6) (pc' := 10) rfl (hb hby dmax_6) (by decide) (by decide) ?_
      show Steps p.tables e below (s₁.setTop (mkF m 10 #[.val (.int p1), .val (.int p2)] [(.int p1)])) _
      exact k)
    obtain ⟨fs, hr, hrun, hended, hW, hsame⟩ := X0.leave (v := some (.int p1)) (fun h => by rw [Bd.returns] at h; cases h)
    refine ⟨_, _, pre3 _ ?_, hrun, hended, _, _, rfl, ?_, ⟨_, rfl⟩, hW, hsame.mono (by decide) (by decide)⟩
    · exact retI X0 hx Bd.returns (hb hby dmax_10) hr
    · show Q_max Z p1 p2 h0 n0 _ s₁.heap _
      unfold Q_max; rw [hm]
      rw [e0]
      exact ⟨rfl, N0, rfl⟩
theorem dfo_0 : decode method_3_code 0 = .ok (.aload_n 0, 1) := by decide +kernel
theorem dfo_1 : decode method_3_code 1 = .ok (.iconst 0, 1) := by decide +kernel
theorem dfo_2 : decode method_3_code 2 = .ok (.iaload, 1) := by decide +kernel
theorem dfo_3 : decode method_3_code 3 = .ok (.iload_n 1, 1) := by decide +kernel
theorem dfo_4 : decode method_3_code 4 = .ok (.if_icmp .ne 5, 3) := by decide +kernel
theorem dfo_7 : decode method_3_code 7 = .ok (.iconst 0, 1) := by decide +kernel
theorem dfo_8 : decode method_3_code 8 = .ok (.ireturn, 1) := by decide +kernel
theorem dfo_9 : decode method_3_code 9 = .ok (.aload_n 0, 1) := by decide +kernel
theorem dfo_10 : decode method_3_code 10 = .ok (.iconst 1, 1) := by decide +kernel
theorem dfo_11 : decode method_3_code 11 = .ok (.iaload, 1) := by decide +kernel
theorem dfo_12 : decode method_3_code 12 = .ok (.iload_n 1, 1) := by decide +kernel
theorem dfo_13 : decode method_3_code 13 = .ok (.if_icmp .ne 5, 3) := by decide +kernel
theorem dfo_16 : decode method_3_code 16 = .ok (.iconst 1, 1) := by decide +kernel
theorem dfo_17 : decode method_3_code 17 = .ok (.ireturn, 1) := by decide +kernel
theorem dfo_18 : decode method_3_code 18 = .ok (.aload_n 0, 1) := by decide +kernel
theorem dfo_19 : decode method_3_code 19 = .ok (.iconst 2, 1) := by decide +kernel
theorem dfo_20 : decode method_3_code 20 = .ok (.iaload, 1) := by decide +kernel
theorem dfo_21 : decode method_3_code 21 = .ok (.iload_n 1, 1) := by decide +kernel
theorem dfo_22 : decode method_3_code 22 = .ok (.if_icmp .ne 5, 3) := by decide +kernel
theorem dfo_25 : decode method_3_code 25 = .ok (.iconst 2, 1) := by decide +kernel
theorem dfo_26 : decode method_3_code 26 = .ok (.ireturn, 1) := by decide +kernel
theorem dfo_27 : decode method_3_code 27 = .ok (.aload_n 0, 1) := by decide +kernel
theorem dfo_28 : decode method_3_code 28 = .ok (.iconst 3, 1) := by decide +kernel
theorem dfo_29 : decode method_3_code 29 = .ok (.iaload, 1) := by decide +kernel
theorem dfo_30 : decode method_3_code 30 = .ok (.iload_n 1, 1) := by decide +kernel
theorem dfo_31 : decode method_3_code 31 = .ok (.if_icmp .ne 5, 3) := by decide +kernel
theorem dfo_34 : decode method_3_code 34 = .ok (.iconst 3, 1) := by decide +kernel
theorem dfo_35 : decode method_3_code 35 = .ok (.ireturn, 1) := by decide +kernel
theorem dfo_36 : decode method_3_code 36 = .ok (.aload_n 0, 1) := by decide +kernel
theorem dfo_37 : decode method_3_code 37 = .ok (.iconst 4, 1) := by decide +kernel
theorem dfo_38 : decode method_3_code 38 = .ok (.iaload, 1) := by decide +kernel
theorem dfo_39 : decode method_3_code 39 = .ok (.iload_n 1, 1) := by decide +kernel
theorem dfo_40 : decode method_3_code 40 = .ok (.if_icmp .ne 5, 3) := by decide +kernel
theorem dfo_43 : decode method_3_code 43 = .ok (.iconst 4, 1) := by decide +kernel
theorem dfo_44 : decode method_3_code 44 = .ok (.ireturn, 1) := by decide +kernel
theorem dfo_45 : decode method_3_code 45 = .ok (.aload_n 0, 1) := by decide +kernel
theorem dfo_46 : decode method_3_code 46 = .ok (.iconst 5, 1) := by decide +kernel
theorem dfo_47 : decode method_3_code 47 = .ok (.iaload, 1) := by decide +kernel
theorem dfo_48 : decode method_3_code 48 = .ok (.iload_n 1, 1) := by decide +kernel
theorem dfo_49 : decode method_3_code 49 = .ok (.if_icmp .ne 5, 3) := by decide +kernel
theorem dfo_52 : decode method_3_code 52 = .ok (.iconst 5, 1) := by decide +kernel
theorem dfo_53 : decode method_3_code 53 = .ok (.ireturn, 1) := by decide +kernel
theorem dfo_54 : decode method_3_code 54 = .ok (.iconst (-1), 1) := by decide +kernel
theorem dfo_55 : decode method_3_code 55 = .ok (.ireturn, 1) := by decide +kernel
theorem pn_fo : plainName "com/example/even_odds/evenodds/relation/PartitionFirstStatesPinLaw" = true := by first | (simp [plainName, overriddenIn]; done) | decide +kernel
theorem ef_fo (m : MethodId) (b1 : Addr) (kk : Int32) : entryFrame m #[(.ref b1), (.int kk)] 2 = (mkF m 0 #[.val (.ref b1), .val (.int kk)] []) := by first | (simp [entryFrame, mkF, argsToLocals, Value.category]; done) | rfl
def Q_fo (Z : State) (b1 : Addr) (kk c0 c1 c2 c3 c4 c5 : Int32) (k : ClassId) (h0 : Heap) (n0 : Nat) (v : Option Value) (h : Heap) (L : List Loc) : Prop := v = some (.int (own_first c0 c1 c2 c3 c4 c5 kk)) ∧ Fr n0 L ∧ h = h0
set_option maxRecDepth 65536 in
set_option maxHeartbeats 40000000 in
theorem rm_fo (l : Launch) (Z : State) (a0 : Array Value) (hw : ∀ d ∈ tables_1, d.before a0 Z = true) (ws : List Jvm.Cond) (b1 : Addr) (kk c0 c1 c2 c3 c4 c5 : Int32) (k : ClassId) (h0 : Heap) (n0 : Nat) (Z0 : n0 ≤ h0.size) (V1 : Arv Z h0 b1 k .int 6 [(.int c0), (.int c1), (.int c2), (.int c3), (.int c4), (.int c5)] (.int 0)) :
    MetFree l (⟨"com/example/even_odds/evenodds/relation/PartitionFirstStatesPinLaw", "firstOf", "([II)I"⟩ : MethodName) (head1 (Jvm.Cond.code (⟨"com/example/even_odds/evenodds/relation/PartitionFirstStatesPinLaw", "firstOf", "([II)I"⟩ : MethodName) method_3_code 2 (some .int) :: ws) ({ frames := 0, cells := 0, slots := 0, locals := 0 } : Room)) (fun a U => a = #[(.ref b1), (.int kk)] ∧ Z.Warmed39 U.vm ∧ U.heap = h0) (fun _ _ _ _ _ => True) (fun _ U o U' => ∃ v L, o = .returned v ∧ Q_fo Z b1 kk c0 c1 c2 c3 c4 c5 k h0 n0 v U'.heap L ∧ FrameEnd U o U' L ({ frames := 0, cells := 0, slots := 0, locals := 0 } : Room).cells ({ frames := 0, cells := 0, slots := 0, locals := 0 } : Room).slots) := by
  refine MetFree.of_bodySF (plainFor_of_name pn_fo) hisR ?_
  intro p e s m args below meth c s₁ Bd hml0 hP hK
  obtain ⟨rfl, hZ, hh⟩ := hP
  have hx := Bd.exec
  have hby := Bd.bytes
  have hml : c.maxLocals = 2 := hml0
  have hown : s.vm.findClass "com/example/even_odds/evenodds/relation/PartitionFirstStatesPinLaw" = some m.cls := findClass_of_methodNamed Bd.named
  have hnm := (name_of_methodNamed Bd.named Bd.method).1
  have X0 : Stand p l e ({ frames := 0, cells := 0, slots := 0, locals := 0 } : Room) s m #[(.ref b1), (.int kk)] below meth c s₁ [] 0 0 := Stand.of_body Bd
  have e0 : s₁.heap = h0 := by rw [← hh, Bd.state]; rfl
  have N0 := Fr.nil n0
  have pre0 : ∀ t, Steps p.tables e below (s₁.setTop (mkF m 0 #[.val (.ref b1), .val (.int kk)] [])) t → Steps p.tables e below (s₁.setTop (entryFrame m #[(.ref b1), (.int kk)] 2)) t := fun t k => castTop (ef_fo m b1 kk) k
  obtain ⟨cl2, Ar2, kc2, S2, M2, H2, G2⟩ := id V1
  have hin2 := inb_of S2 (j := (0 : Int32)) (by decide)
  have hat2 : cl2.slots[((0 : Int32)).toNatClampNeg]? = some (.int c0) := H2.at hin2 rfl
  have pre3 : ∀ t, Steps p.tables e below (s₁.setTop (mkF m 4 #[.val (.ref b1), .val (.int kk)] [(.int kk), (.int c0)])) t → Steps p.tables e below (s₁.setTop (entryFrame m #[(.ref b1), (.int kk)] 2)) t := fun t k => pre0 t (by
    show Steps p.tables e below (s₁.setTop (mkF m 0 #[.val (.ref b1), .val (.int kk)] [])) _
    refine XS.aloadN X0.here hx rfl (hb hby dfo_0) rfl rfl ?_
    show Steps p.tables e below (s₁.setTop (mkF m 1 #[.val (.ref b1), .val (.int kk)] [(.ref b1)])) _
    refine XS.iconst X0.here hx rfl (hb hby dfo_1) ?_
    show Steps p.tables e below (s₁.setTop (mkF m 2 #[.val (.ref b1), .val (.int kk)] [(.int (0 : Int32)), (.ref b1)])) _
    refine X0.iaload hx (j := (0 : Int32)) (v := (.int c0)) (by rw [e0]; exact Ar2.1) (State.isArrayOf_alike hZ.alike Ar2.2.1) Ar2.2.2 hin2 hat2 (g := (mkF m 2 #[.val (.ref b1), .val (.int kk)] [(.int (0 : Int32)), (.ref b1)])) rfl rfl (hb hby dfo_2) _ ?_
    show Steps p.tables e below (s₁.setTop (mkF m 3 #[.val (.ref b1), .val (.int kk)] [(.int c0)])) _
    refine XS.iloadN X0.here hx rfl (hb hby dfo_3) rfl ?_
    show Steps p.tables e below (s₁.setTop (mkF m 4 #[.val (.ref b1), .val (.int kk)] [(.int kk), (.int c0)])) _
    exact k)
  by_cases hc0 : c0 = kk
  · skip
    have hf : own_first c0 c1 c2 c3 c4 c5 kk = 0 := by simp [own_first, hc0]
    have pre4 : ∀ t, Steps p.tables e below (s₁.setTop (mkF m 8 #[.val (.ref b1), .val (.int kk)] [(.int (0 : Int32))])) t → Steps p.tables e below (s₁.setTop (entryFrame m #[(.ref b1), (.int kk)] 2)) t := fun t k => pre3 t (by
      show Steps p.tables e below (s₁.setTop (mkF m 4 #[.val (.ref b1), .val (.int kk)] [(.int kk), (.int c0)])) _
      refine XS.icmpNo X0.here hx rfl (hb hby dfo_4) rfl (XT.ii_ne_f hc0) ?_
      show Steps p.tables e below (s₁.setTop (mkF m 7 #[.val (.ref b1), .val (.int kk)] [])) _
      refine XS.iconst X0.here hx rfl (hb hby dfo_7) ?_
      show Steps p.tables e below (s₁.setTop (mkF m 8 #[.val (.ref b1), .val (.int kk)] [(.int (0 : Int32))])) _
      exact k)
    obtain ⟨fs, hr, hrun, hended, hW, hsame⟩ := X0.leave (v := some (.int (0 : Int32))) (fun h => by rw [Bd.returns] at h; cases h)
    refine ⟨_, _, pre4 _ ?_, hrun, hended, _, _, rfl, ?_, ⟨_, rfl⟩, hW, hsame.mono (by decide) (by decide)⟩
    · exact retI X0 hx Bd.returns (hb hby dfo_8) hr
    · show Q_fo Z b1 kk c0 c1 c2 c3 c4 c5 k h0 n0 _ s₁.heap _
      unfold Q_fo; rw [hf]
      rw [e0]
      exact ⟨rfl, N0, rfl⟩
  · skip
    obtain ⟨cl4, Ar4, kc4, S4, M4, H4, G4⟩ := id V1
    have hin4 := inb_of S4 (j := (1 : Int32)) (by decide)
    have hat4 : cl4.slots[((1 : Int32)).toNatClampNeg]? = some (.int c1) := H4.at hin4 rfl
    have pre5 : ∀ t, Steps p.tables e below (s₁.setTop (mkF m 13 #[.val (.ref b1), .val (.int kk)] [(.int kk), (.int c1)])) t → Steps p.tables e below (s₁.setTop (entryFrame m #[(.ref b1), (.int kk)] 2)) t := fun t k => pre3 t (by
      show Steps p.tables e below (s₁.setTop (mkF m 4 #[.val (.ref b1), .val (.int kk)] [(.int kk), (.int c0)])) _
      refine XS.icmpYes X0.here hx rfl (pc0 := 4) (pc' := 9) rfl (hb hby dfo_4) rfl (XT.ii_ne_t hc0) (by decide) (by decide) ?_
      show Steps p.tables e below (s₁.setTop (mkF m 9 #[.val (.ref b1), .val (.int kk)] [])) _
      refine XS.aloadN X0.here hx rfl (hb hby dfo_9) rfl rfl ?_
      show Steps p.tables e below (s₁.setTop (mkF m 10 #[.val (.ref b1), .val (.int kk)] [(.ref b1)])) _
      refine XS.iconst X0.here hx rfl (hb hby dfo_10) ?_
      show Steps p.tables e below (s₁.setTop (mkF m 11 #[.val (.ref b1), .val (.int kk)] [(.int (1 : Int32)), (.ref b1)])) _
      refine X0.iaload hx (j := (1 : Int32)) (v := (.int c1)) (by rw [e0]; exact Ar4.1) (State.isArrayOf_alike hZ.alike Ar4.2.1) Ar4.2.2 hin4 hat4 (g := (mkF m 11 #[.val (.ref b1), .val (.int kk)] [(.int (1 : Int32)), (.ref b1)])) rfl rfl (hb hby dfo_11) _ ?_
      show Steps p.tables e below (s₁.setTop (mkF m 12 #[.val (.ref b1), .val (.int kk)] [(.int c1)])) _
      refine XS.iloadN X0.here hx rfl (hb hby dfo_12) rfl ?_
      show Steps p.tables e below (s₁.setTop (mkF m 13 #[.val (.ref b1), .val (.int kk)] [(.int kk), (.int c1)])) _
      exact k)
    by_cases hc1 : c1 = kk
    · skip
      have hf : own_first c0 c1 c2 c3 c4 c5 kk = 1 := by simp [own_first, hc0, hc1]
      have pre6 : ∀ t, Steps p.tables e below (s₁.setTop (mkF m 17 #[.val (.ref b1), .val (.int kk)] [(.int (1 : Int32))])) t → Steps p.tables e below (s₁.setTop (entryFrame m #[(.ref b1), (.int kk)] 2)) t := fun t k => pre5 t (by
        show Steps p.tables e below (s₁.setTop (mkF m 13 #[.val (.ref b1), .val (.int kk)] [(.int kk), (.int c1)])) _
        refine XS.icmpNo X0.here hx rfl (hb hby dfo_13) rfl (XT.ii_ne_f hc1) ?_
        show Steps p.tables e below (s₁.setTop (mkF m 16 #[.val (.ref b1), .val (.int kk)] [])) _
        refine XS.iconst X0.here hx rfl (hb hby dfo_16) ?_
        show Steps p.tables e below (s₁.setTop (mkF m 17 #[.val (.ref b1), .val (.int kk)] [(.int (1 : Int32))])) _
        exact k)
      obtain ⟨fs, hr, hrun, hended, hW, hsame⟩ := X0.leave (v := some (.int (1 : Int32))) (fun h => by rw [Bd.returns] at h; cases h)
      refine ⟨_, _, pre6 _ ?_, hrun, hended, _, _, rfl, ?_, ⟨_, rfl⟩, hW, hsame.mono (by decide) (by decide)⟩
      · exact retI X0 hx Bd.returns (hb hby dfo_17) hr
      · show Q_fo Z b1 kk c0 c1 c2 c3 c4 c5 k h0 n0 _ s₁.heap _
        unfold Q_fo; rw [hf]
        rw [e0]
        exact ⟨rfl, N0, rfl⟩
    · skip
      obtain ⟨cl6, Ar6, kc6, S6, M6, H6, G6⟩ := id V1
      have hin6 := inb_of S6 (j := (2 : Int32)) (by decide)
      have hat6 : cl6.slots[((2 : Int32)).toNatClampNeg]? = some (.int c2) := H6.at hin6 rfl
      have pre7 : ∀ t, Steps p.tables e below (s₁.setTop (mkF m 22 #[.val (.ref b1), .val (.int kk)] [(.int kk), (.int c2)])) t → Steps p.tables e below (s₁.setTop (entryFrame m #[(.ref b1), (.int kk)] 2)) t := fun t k => pre5 t (by
        show Steps p.tables e below (s₁.setTop (mkF m 13 #[.val (.ref b1), .val (.int kk)] [(.int kk), (.int c1)])) _
        refine XS.icmpYes X0.here hx rfl (pc0 := 13) (pc' := 18) rfl (hb hby dfo_13) rfl (XT.ii_ne_t hc1) (by decide) (by decide) ?_
        show Steps p.tables e below (s₁.setTop (mkF m 18 #[.val (.ref b1), .val (.int kk)] [])) _
        refine XS.aloadN X0.here hx rfl (hb hby dfo_18) rfl rfl ?_
        show Steps p.tables e below (s₁.setTop (mkF m 19 #[.val (.ref b1), .val (.int kk)] [(.ref b1)])) _
        refine XS.iconst X0.here hx rfl (hb hby dfo_19) ?_
        show Steps p.tables e below (s₁.setTop (mkF m 20 #[.val (.ref b1), .val (.int kk)] [(.int (2 : Int32)), (.ref b1)])) _
        refine X0.iaload hx (j := (2 : Int32)) (v := (.int c2)) (by rw [e0]; exact Ar6.1) (State.isArrayOf_alike hZ.alike Ar6.2.1) Ar6.2.2 hin6 hat6 (g := (mkF m 20 #[.val (.ref b1), .val (.int kk)] [(.int (2 : Int32)), (.ref b1)])) rfl rfl (hb hby dfo_20) _ ?_
        show Steps p.tables e below (s₁.setTop (mkF m 21 #[.val (.ref b1), .val (.int kk)] [(.int c2)])) _
        refine XS.iloadN X0.here hx rfl (hb hby dfo_21) rfl ?_
        show Steps p.tables e below (s₁.setTop (mkF m 22 #[.val (.ref b1), .val (.int kk)] [(.int kk), (.int c2)])) _
        exact k)
      by_cases hc2 : c2 = kk
      · skip
        have hf : own_first c0 c1 c2 c3 c4 c5 kk = 2 := by simp [own_first, hc0, hc1, hc2]
        have pre8 : ∀ t, Steps p.tables e below (s₁.setTop (mkF m 26 #[.val (.ref b1), .val (.int kk)] [(.int (2 : Int32))])) t → Steps p.tables e below (s₁.setTop (entryFrame m #[(.ref b1), (.int kk)] 2)) t := fun t k => pre7 t (by
          show Steps p.tables e below (s₁.setTop (mkF m 22 #[.val (.ref b1), .val (.int kk)] [(.int kk), (.int c2)])) _
          refine XS.icmpNo X0.here hx rfl (hb hby dfo_22) rfl (XT.ii_ne_f hc2) ?_
          show Steps p.tables e below (s₁.setTop (mkF m 25 #[.val (.ref b1), .val (.int kk)] [])) _
          refine XS.iconst X0.here hx rfl (hb hby dfo_25) ?_
          show Steps p.tables e below (s₁.setTop (mkF m 26 #[.val (.ref b1), .val (.int kk)] [(.int (2 : Int32))])) _
          exact k)
        obtain ⟨fs, hr, hrun, hended, hW, hsame⟩ := X0.leave (v := some (.int (2 : Int32))) (fun h => by rw [Bd.returns] at h; cases h)
        refine ⟨_, _, pre8 _ ?_, hrun, hended, _, _, rfl, ?_, ⟨_, rfl⟩, hW, hsame.mono (by decide) (by decide)⟩
        · exact retI X0 hx Bd.returns (hb hby dfo_26) hr
        · show Q_fo Z b1 kk c0 c1 c2 c3 c4 c5 k h0 n0 _ s₁.heap _
          unfold Q_fo; rw [hf]
          rw [e0]
          exact ⟨rfl, N0, rfl⟩
      · skip
        obtain ⟨cl8, Ar8, kc8, S8, M8, H8, G8⟩ := id V1
        have hin8 := inb_of S8 (j := (3 : Int32)) (by decide)
        have hat8 : cl8.slots[((3 : Int32)).toNatClampNeg]? = some (.int c3) := H8.at hin8 rfl
        have pre9 : ∀ t, Steps p.tables e below (s₁.setTop (mkF m 31 #[.val (.ref b1), .val (.int kk)] [(.int kk), (.int c3)])) t → Steps p.tables e below (s₁.setTop (entryFrame m #[(.ref b1), (.int kk)] 2)) t := fun t k => pre7 t (by
          show Steps p.tables e below (s₁.setTop (mkF m 22 #[.val (.ref b1), .val (.int kk)] [(.int kk), (.int c2)])) _
          refine XS.icmpYes X0.here hx rfl (pc0 := 22) (pc' := 27) rfl (hb hby dfo_22) rfl (XT.ii_ne_t hc2) (by decide) (by decide) ?_
          show Steps p.tables e below (s₁.setTop (mkF m 27 #[.val (.ref b1), .val (.int kk)] [])) _
          refine XS.aloadN X0.here hx rfl (hb hby dfo_27) rfl rfl ?_
          show Steps p.tables e below (s₁.setTop (mkF m 28 #[.val (.ref b1), .val (.int kk)] [(.ref b1)])) _
          refine XS.iconst X0.here hx rfl (hb hby dfo_28) ?_
          show Steps p.tables e below (s₁.setTop (mkF m 29 #[.val (.ref b1), .val (.int kk)] [(.int (3 : Int32)), (.ref b1)])) _
          refine X0.iaload hx (j := (3 : Int32)) (v := (.int c3)) (by rw [e0]; exact Ar8.1) (State.isArrayOf_alike hZ.alike Ar8.2.1) Ar8.2.2 hin8 hat8 (g := (mkF m 29 #[.val (.ref b1), .val (.int kk)] [(.int (3 : Int32)), (.ref b1)])) rfl rfl (hb hby dfo_29) _ ?_
          show Steps p.tables e below (s₁.setTop (mkF m 30 #[.val (.ref b1), .val (.int kk)] [(.int c3)])) _
          refine XS.iloadN X0.here hx rfl (hb hby dfo_30) rfl ?_
          show Steps p.tables e below (s₁.setTop (mkF m 31 #[.val (.ref b1), .val (.int kk)] [(.int kk), (.int c3)])) _
          exact k)
        by_cases hc3 : c3 = kk
        · skip
          have hf : own_first c0 c1 c2 c3 c4 c5 kk = 3 := by simp [own_first, hc0, hc1, hc2, hc3]
          have pre10 : ∀ t, Steps p.tables e below (s₁.setTop (mkF m 35 #[.val (.ref b1), .val (.int kk)] [(.int (3 : Int32))])) t → Steps p.tables e below (s₁.setTop (entryFrame m #[(.ref b1), (.int kk)] 2)) t := fun t k => pre9 t (by
            show Steps p.tables e below (s₁.setTop (mkF m 31 #[.val (.ref b1), .val (.int kk)] [(.int kk), (.int c3)])) _
            refine XS.icmpNo X0.here hx rfl (hb hby dfo_31) rfl (XT.ii_ne_f hc3) ?_
            show Steps p.tables e below (s₁.setTop (mkF m 34 #[.val (.ref b1), .val (.int kk)] [])) _
            refine XS.iconst X0.here hx rfl (hb hby dfo_34) ?_
            show Steps p.tables e below (s₁.setTop (mkF m 35 #[.val (.ref b1), .val (.int kk)] [(.int (3 : Int32))])) _
            exact k)
          obtain ⟨fs, hr, hrun, hended, hW, hsame⟩ := X0.leave (v := some (.int (3 : Int32))) (fun h => by rw [Bd.returns] at h; cases h)
          refine ⟨_, _, pre10 _ ?_, hrun, hended, _, _, rfl, ?_, ⟨_, rfl⟩, hW, hsame.mono (by decide) (by decide)⟩
          · exact retI X0 hx Bd.returns (hb hby dfo_35) hr
          · show Q_fo Z b1 kk c0 c1 c2 c3 c4 c5 k h0 n0 _ s₁.heap _
            unfold Q_fo; rw [hf]
            rw [e0]
            exact ⟨rfl, N0, rfl⟩
        · skip
          obtain ⟨cl10, Ar10, kc10, S10, M10, H10, G10⟩ := id V1
          have hin10 := inb_of S10 (j := (4 : Int32)) (by decide)
          have hat10 : cl10.slots[((4 : Int32)).toNatClampNeg]? = some (.int c4) := H10.at hin10 rfl
          have pre11 : ∀ t, Steps p.tables e below (s₁.setTop (mkF m 40 #[.val (.ref b1), .val (.int kk)] [(.int kk), (.int c4)])) t → Steps p.tables e below (s₁.setTop (entryFrame m #[(.ref b1), (.int kk)] 2)) t := fun t k => pre9 t (by
            show Steps p.tables e below (s₁.setTop (mkF m 31 #[.val (.ref b1), .val (.int kk)] [(.int kk), (.int c3)])) _
            refine XS.icmpYes X0.here hx rfl (pc0 := 31) (pc' := 36) rfl (hb hby dfo_31) rfl (XT.ii_ne_t hc3) (by decide) (by decide) ?_
            show Steps p.tables e below (s₁.setTop (mkF m 36 #[.val (.ref b1), .val (.int kk)] [])) _
            refine XS.aloadN X0.here hx rfl (hb hby dfo_36) rfl rfl ?_
            show Steps p.tables e below (s₁.setTop (mkF m 37 #[.val (.ref b1), .val (.int kk)] [(.ref b1)])) _
            refine XS.iconst X0.here hx rfl (hb hby dfo_37) ?_
            show Steps p.tables e below (s₁.setTop (mkF m 38 #[.val (.ref b1), .val (.int kk)] [(.int (4 : Int32)), (.ref b1)])) _
            refine X0.iaload hx (j := (4 : Int32)) (v := (.int c4)) (by rw [e0]; exact Ar10.1) (State.isArrayOf_alike hZ.alike Ar10.2.1) Ar10.2.2 hin10 hat10 (g := (mkF m 38 #[.val (.ref b1), .val (.int kk)] [(.int (4 : Int32)), (.ref b1)])) rfl rfl (hb hby dfo_38) _ ?_
            show Steps p.tables e below (s₁.setTop (mkF m 39 #[.val (.ref b1), .val (.int kk)] [(.int c4)])) _
            refine XS.iloadN X0.here hx rfl (hb hby dfo_39) rfl ?_
            show Steps p.tables e below (s₁.setTop (mkF m 40 #[.val (.ref b1), .val (.int kk)] [(.int kk), (.int c4)])) _
            exact k)
          by_cases hc4 : c4 = kk
          · skip
            have hf : own_first c0 c1 c2 c3 c4 c5 kk = 4 := by simp [own_first, hc0, hc1, hc2, hc3, hc4]
            have pre12 : ∀ t, Steps p.tables e below (s₁.setTop (mkF m 44 #[.val (.ref b1), .val (.int kk)] [(.int (4 : Int32))])) t → Steps p.tables e below (s₁.setTop (entryFrame m #[(.ref b1), (.int kk)] 2)) t := fun t k => pre11 t (by
              show Steps p.tables e below (s₁.setTop (mkF m 40 #[.val (.ref b1), .val (.int kk)] [(.int kk), (.int c4)])) _
              refine XS.icmpNo X0.here hx rfl (hb hby dfo_40) rfl (XT.ii_ne_f hc4) ?_
              show Steps p.tables e below (s₁.setTop (mkF m 43 #[.val (.ref b1), .val (.int kk)] [])) _
              refine XS.iconst X0.here hx rfl (hb hby dfo_43) ?_
              show Steps p.tables e below (s₁.setTop (mkF m 44 #[.val (.ref b1), .val (.int kk)] [(.int (4 : Int32))])) _
              exact k)
            obtain ⟨fs, hr, hrun, hended, hW, hsame⟩ := X0.leave (v := some (.int (4 : Int32))) (fun h => by rw [Bd.returns] at h; cases h)
            refine ⟨_, _, pre12 _ ?_, hrun, hended, _, _, rfl, ?_, ⟨_, rfl⟩, hW, hsame.mono (by decide) (by decide)⟩
            · exact retI X0 hx Bd.returns (hb hby dfo_44) hr
            · show Q_fo Z b1 kk c0 c1 c2 c3 c4 c5 k h0 n0 _ s₁.heap _
              unfold Q_fo; rw [hf]
              rw [e0]
              exact ⟨rfl, N0, rfl⟩
          · skip
            obtain ⟨cl12, Ar12, kc12, S12, M12, H12, G12⟩ := id V1
            have hin12 := inb_of S12 (j := (5 : Int32)) (by decide)
            have hat12 : cl12.slots[((5 : Int32)).toNatClampNeg]? = some (.int c5) := H12.at hin12 rfl
            have pre13 : ∀ t, Steps p.tables e below (s₁.setTop (mkF m 49 #[.val (.ref b1), .val (.int kk)] [(.int kk), (.int c5)])) t → Steps p.tables e below (s₁.setTop (entryFrame m #[(.ref b1), (.int kk)] 2)) t := fun t k => pre11 t (by
              show Steps p.tables e below (s₁.setTop (mkF m 40 #[.val (.ref b1), .val (.int kk)] [(.int kk), (.int c4)])) _
              refine XS.icmpYes X0.here hx rfl (pc0 := 40) (pc' := 45) rfl (hb hby dfo_40) rfl (XT.ii_ne_t hc4) (by decide) (by decide) ?_
              show Steps p.tables e below (s₁.setTop (mkF m 45 #[.val (.ref b1), .val (.int kk)] [])) _
              refine XS.aloadN X0.here hx rfl (hb hby dfo_45) rfl rfl ?_
              show Steps p.tables e below (s₁.setTop (mkF m 46 #[.val (.ref b1), .val (.int kk)] [(.ref b1)])) _
              refine XS.iconst X0.here hx rfl (hb hby dfo_46) ?_
              show Steps p.tables e below (s₁.setTop (mkF m 47 #[.val (.ref b1), .val (.int kk)] [(.int (5 : Int32)), (.ref b1)])) _
              refine X0.iaload hx (j := (5 : Int32)) (v := (.int c5)) (by rw [e0]; exact Ar12.1) (State.isArrayOf_alike hZ.alike Ar12.2.1) Ar12.2.2 hin12 hat12 (g := (mkF m 47 #[.val (.ref b1), .val (.int kk)] [(.int (5 : Int32)), (.ref b1)])) rfl rfl (hb hby dfo_47) _ ?_
              show Steps p.tables e below (s₁.setTop (mkF m 48 #[.val (.ref b1), .val (.int kk)] [(.int c5)])) _
              refine XS.iloadN X0.here hx rfl (hb hby dfo_48) rfl ?_
              show Steps p.tables e below (s₁.setTop (mkF m 49 #[.val (.ref b1), .val (.int kk)] [(.int kk), (.int c5)])) _
              exact k)
            by_cases hc5 : c5 = kk
            · skip
              have hf : own_first c0 c1 c2 c3 c4 c5 kk = 5 := by simp [own_first, hc0, hc1, hc2, hc3, hc4, hc5]
              have pre14 : ∀ t, Steps p.tables e below (s₁.setTop (mkF m 53 #[.val (.ref b1), .val (.int kk)] [(.int (5 : Int32))])) t → Steps p.tables e below (s₁.setTop (entryFrame m #[(.ref b1), (.int kk)] 2)) t := fun t k => pre13 t (by
                show Steps p.tables e below (s₁.setTop (mkF m 49 #[.val (.ref b1), .val (.int kk)] [(.int kk), (.int c5)])) _
                refine XS.icmpNo X0.here hx rfl (hb hby dfo_49) rfl (XT.ii_ne_f hc5) ?_
                show Steps p.tables e below (s₁.setTop (mkF m 52 #[.val (.ref b1), .val (.int kk)] [])) _
                refine XS.iconst X0.here hx rfl (hb hby dfo_52) ?_
                show Steps p.tables e below (s₁.setTop (mkF m 53 #[.val (.ref b1), .val (.int kk)] [(.int (5 : Int32))])) _
                exact k)
              obtain ⟨fs, hr, hrun, hended, hW, hsame⟩ := X0.leave (v := some (.int (5 : Int32))) (fun h => by rw [Bd.returns] at h; cases h)
              refine ⟨_, _, pre14 _ ?_, hrun, hended, _, _, rfl, ?_, ⟨_, rfl⟩, hW, hsame.mono (by decide) (by decide)⟩
              · exact retI X0 hx Bd.returns (hb hby dfo_53) hr
              · show Q_fo Z b1 kk c0 c1 c2 c3 c4 c5 k h0 n0 _ s₁.heap _
                unfold Q_fo; rw [hf]
                rw [e0]
                exact ⟨rfl, N0, rfl⟩
            · skip
              have hf : own_first c0 c1 c2 c3 c4 c5 kk = -1 := by simp [own_first, hc0, hc1, hc2, hc3, hc4, hc5]
              have pre14 : ∀ t, Steps p.tables e below (s₁.setTop (mkF m 55 #[.val (.ref b1), .val (.int kk)] [(.int (-1 : Int32))])) t → Steps p.tables e below (s₁.setTop (entryFrame m #[(.ref b1), (.int kk)] 2)) t := fun t k => pre13 t (by
                show Steps p.tables e below (s₁.setTop (mkF m 49 #[.val (.ref b1), .val (.int kk)] [(.int kk), (.int c5)])) _
                refine XS.icmpYes X0.here hx rfl (pc0 := 49) (pc' := 54) rfl (hb hby dfo_49) rfl (XT.ii_ne_t hc5) (by decide) (by decide) ?_
                show Steps p.tables e below (s₁.setTop (mkF m 54 #[.val (.ref b1), .val (.int kk)] [])) _
                refine XS.iconst X0.here hx rfl (hb hby dfo_54) ?_
                show Steps p.tables e below (s₁.setTop (mkF m 55 #[.val (.ref b1), .val (.int kk)] [(.int (-1 : Int32))])) _
                exact k)
              obtain ⟨fs, hr, hrun, hended, hW, hsame⟩ := X0.leave (v := some (.int (-1 : Int32))) (fun h => by rw [Bd.returns] at h; cases h)
              refine ⟨_, _, pre14 _ ?_, hrun, hended, _, _, rfl, ?_, ⟨_, rfl⟩, hW, hsame.mono (by decide) (by decide)⟩
              · exact retI X0 hx Bd.returns (hb hby dfo_55) hr
              · show Q_fo Z b1 kk c0 c1 c2 c3 c4 c5 k h0 n0 _ s₁.heap _
                unfold Q_fo; rw [hf]
                rw [e0]
                exact ⟨rfl, N0, rfl⟩
theorem dini_0 : decode prog_63_method_1_code 0 = .ok (.aload_n 0, 1) := by decide +kernel
theorem dini_1 : decode prog_63_method_1_code 1 = .ok (.invokespecial 1, 3) := by decide +kernel
theorem dini_4 : decode prog_63_method_1_code 4 = .ok (.aload_n 0, 1) := by decide +kernel
theorem dini_5 : decode prog_63_method_1_code 5 = .ok (.aload_n 1, 1) := by decide +kernel
theorem dini_6 : decode prog_63_method_1_code 6 = .ok (.putfield 7, 3) := by decide +kernel
theorem dini_9 : decode prog_63_method_1_code 9 = .ok (.aload_n 0, 1) := by decide +kernel
theorem dini_10 : decode prog_63_method_1_code 10 = .ok (.iload_n 2, 1) := by decide +kernel
theorem dini_11 : decode prog_63_method_1_code 11 = .ok (.putfield 13, 3) := by decide +kernel
theorem dini_14 : decode prog_63_method_1_code 14 = .ok (.return_, 1) := by decide +kernel
theorem pn_ini : plainName "com/example/even_odds/evenodds/relation/Partition" = true := by first | (simp [plainName, overriddenIn]; done) | decide +kernel
theorem ef_ini (m : MethodId) (a1 : Addr) (b1 : Addr) (n : Int32) : entryFrame m #[(.ref a1), (.ref b1), (.int n)] 3 = (mkF m 0 #[.val (.ref a1), .val (.ref b1), .val (.int n)] []) := by first | (simp [entryFrame, mkF, argsToLocals, Value.category]; done) | rfl
def Q_ini (Z : State) (a1 b1 : Addr) (n : Int32) (u0 u1 : Value) (h0 : Heap) (n0 : Nat) (v : Option Value) (h : Heap) (L : List Loc) : Prop := v = none ∧ Fr n0 L ∧ Keep h0 h [a1] ∧ Fld Z h a1 "com/example/even_odds/evenodds/relation/Partition" "classOf" "[I" (.ref b1) ∧ Fld Z h a1 "com/example/even_odds/evenodds/relation/Partition" "classCount" "I" (.int n)
set_option maxRecDepth 65536 in
set_option maxHeartbeats 40000000 in
theorem rm_ini (l : Launch) (Z : State) (a0 : Array Value) (hw : ∀ d ∈ tables_1, d.before a0 Z = true) (ws : List Jvm.Cond) (a1 b1 : Addr) (n : Int32) (u0 u1 : Value) (h0 : Heap) (n0 : Nat) (Z0 : n0 ≤ h0.size) (E1 : Exa Z h0 a1 "com/example/even_odds/evenodds/relation/Partition") (F1 : Fld Z h0 a1 "com/example/even_odds/evenodds/relation/Partition" "classOf" "[I" u0) (F2 : Fld Z h0 a1 "com/example/even_odds/evenodds/relation/Partition" "classCount" "I" u1) (g_a1 : n0 ≤ a1) :
    MetFree l (⟨"com/example/even_odds/evenodds/relation/Partition", "<init>", "([II)V"⟩ : MethodName) (head1 (Jvm.Cond.code (⟨"com/example/even_odds/evenodds/relation/Partition", "<init>", "([II)V"⟩ : MethodName) prog_63_method_1_code 3 none :: ws) ({ frames := 1, cells := 0, slots := 0, locals := 12 } : Room)) (fun a U => a = #[(.ref a1), (.ref b1), (.int n)] ∧ Z.Warmed39 U.vm ∧ U.heap = h0) (fun _ _ _ _ _ => True) (fun _ U o U' => ∃ v L, o = .returned v ∧ Q_ini Z a1 b1 n u0 u1 h0 n0 v U'.heap L ∧ FrameEnd U o U' L ({ frames := 1, cells := 0, slots := 0, locals := 12 } : Room).cells ({ frames := 1, cells := 0, slots := 0, locals := 12 } : Room).slots) := by
  refine MetFree.of_bodySF (plainFor_of_name pn_ini) hisR ?_
  intro p e s m args below meth c s₁ Bd hml0 hP hK
  obtain ⟨rfl, hZ, hh⟩ := hP
  have hx := Bd.exec
  have hby := Bd.bytes
  have hml : c.maxLocals = 3 := hml0
  have hown : s.vm.findClass "com/example/even_odds/evenodds/relation/Partition" = some m.cls := findClass_of_methodNamed Bd.named
  have hnm := (name_of_methodNamed Bd.named Bd.method).1
  have X0 : Stand p l e ({ frames := 1, cells := 0, slots := 0, locals := 12 } : Room) s m #[(.ref a1), (.ref b1), (.int n)] below meth c s₁ [] 0 0 := Stand.of_body Bd
  have e0 : s₁.heap = h0 := by rw [← hh, Bd.state]; rfl
  have N0 := Fr.nil n0
  have pre0 : ∀ t, Steps p.tables e below (s₁.setTop (mkF m 0 #[.val (.ref a1), .val (.ref b1), .val (.int n)] [])) t → Steps p.tables e below (s₁.setTop (entryFrame m #[(.ref a1), (.ref b1), (.int n)] 3)) t := fun t k => castTop (ef_ini m a1 b1 n) k
  have K2 : Keep h0 h0 [a1] := Keep.refl h0 [a1]
  have pre3 : ∀ t, Steps p.tables e below (s₁.setTop (mkF m 1 #[.val (.ref a1), .val (.ref b1), .val (.int n)] [(.ref a1)])) t → Steps p.tables e below (s₁.setTop (entryFrame m #[(.ref a1), (.ref b1), (.int n)] 3)) t := fun t k => pre0 t (by
    show Steps p.tables e below (s₁.setTop (mkF m 0 #[.val (.ref a1), .val (.ref b1), .val (.int n)] [])) _
    refine XS.aloadN X0.here hx rfl (hb hby dini_0) rfl rfl ?_
    show Steps p.tables e below (s₁.setTop (mkF m 1 #[.val (.ref a1), .val (.ref b1), .val (.int n)] [(.ref a1)])) _
    exact k)
  obtain ⟨T4, X4, e4, st4⟩ := initO X0 hx hZ hown (hw _ (List.mem_of_getElem? (i := 15) rfl)) (hw _ (List.mem_of_getElem? (i := 16) rfl)) (hw _ (List.mem_of_getElem? (i := 17) rfl)) e0 (g := (mkF m 1 #[.val (.ref a1), .val (.ref b1), .val (.int n)] [(.ref a1)])) rfl (by rw [hml]; rfl) rfl (hb hby dini_1) (by decide) (W := 0) (by show 2 * 0 + _ ≤ _; exact Nat.le_of_eq rfl) (by decide)
  have pre5 : ∀ t, Steps p.tables e below (T4.setTop (mkF m 6 #[.val (.ref a1), .val (.ref b1), .val (.int n)] [(.ref b1), (.ref a1)])) t → Steps p.tables e below (s₁.setTop (entryFrame m #[(.ref a1), (.ref b1), (.int n)] 3)) t := fun t k => pre3 t (by
    show Steps p.tables e below (s₁.setTop (mkF m 1 #[.val (.ref a1), .val (.ref b1), .val (.int n)] [(.ref a1)])) _
    refine st4 _ ?_
    show Steps p.tables e below (T4.setTop (mkF m 4 #[.val (.ref a1), .val (.ref b1), .val (.int n)] [])) _
    refine XS.aloadN X4.here hx rfl (hb hby dini_4) rfl rfl ?_
    show Steps p.tables e below (T4.setTop (mkF m 5 #[.val (.ref a1), .val (.ref b1), .val (.int n)] [(.ref a1)])) _
    refine XS.aloadN X4.here hx rfl (hb hby dini_5) rfl rfl ?_
    show Steps p.tables e below (T4.setTop (mkF m 6 #[.val (.ref a1), .val (.ref b1), .val (.int n)] [(.ref b1), (.ref a1)])) _
    exact k)
  obtain ⟨T6, h6, X6, e6, W6, st6⟩ := putF X4 hx hZ hown (host := "") (Or.inl (hw _ (List.mem_of_getElem? (i := 18) rfl))) Via.refl e4 F1 E1 (Or.inr ⟨(hw _ (List.mem_of_getElem? (i := 19) rfl)), rfl, hnm⟩) (hw _ (List.mem_of_getElem? (i := 10) rfl)) (ty := (.array .int)) (by decide) rfl rfl (g := (mkF m 6 #[.val (.ref a1), .val (.ref b1), .val (.int n)] [(.ref b1), (.ref a1)])) rfl rfl (hb hby dini_6)
  have F6 := F1.same W6
  have N6 := Fr.snoc X6 N0 g_a1
  have f7_0 := E1.wr W6
  have f7_2 := F2.other W6 (Or.inr (slot_ne (Or.inr (hw _ (List.mem_of_getElem? (i := 21) rfl))) (Or.inr (hw _ (List.mem_of_getElem? (i := 19) rfl))) (by decide) (t := .int) (t' := (.array .int)) (by decide) (by decide)))
  have K8 := K2.wr W6 (Or.inl (List.mem_of_getElem? (i := 0) rfl))
  have Z6 : n0 ≤ h6.size := Nat.le_trans Z0 (Keep.of_wr W6).1
  have pre9 : ∀ t, Steps p.tables e below (T6.setTop (mkF m 11 #[.val (.ref a1), .val (.ref b1), .val (.int n)] [(.int n), (.ref a1)])) t → Steps p.tables e below (s₁.setTop (entryFrame m #[(.ref a1), (.ref b1), (.int n)] 3)) t := fun t k => pre5 t (by
    show Steps p.tables e below (T4.setTop (mkF m 6 #[.val (.ref a1), .val (.ref b1), .val (.int n)] [(.ref b1), (.ref a1)])) _
    refine st6 _ ?_
    show Steps p.tables e below (T6.setTop (mkF m 9 #[.val (.ref a1), .val (.ref b1), .val (.int n)] [])) _
    refine XS.aloadN X6.here hx rfl (hb hby dini_9) rfl rfl ?_
    show Steps p.tables e below (T6.setTop (mkF m 10 #[.val (.ref a1), .val (.ref b1), .val (.int n)] [(.ref a1)])) _
    refine XS.iloadN X6.here hx rfl (hb hby dini_10) rfl ?_
    show Steps p.tables e below (T6.setTop (mkF m 11 #[.val (.ref a1), .val (.ref b1), .val (.int n)] [(.int n), (.ref a1)])) _
    exact k)
  obtain ⟨T10, h10, X10, e10, W10, st10⟩ := putF X6 hx hZ hown (host := "") (Or.inl (hw _ (List.mem_of_getElem? (i := 20) rfl))) Via.refl e6 f7_2 f7_0 (Or.inr ⟨(hw _ (List.mem_of_getElem? (i := 21) rfl)), rfl, hnm⟩) (hw _ (List.mem_of_getElem? (i := 10) rfl)) (ty := .int) (by decide) rfl rfl (g := (mkF m 11 #[.val (.ref a1), .val (.ref b1), .val (.int n)] [(.int n), (.ref a1)])) rfl rfl (hb hby dini_11)
  have F10 := f7_2.same W10
  have N10 := Fr.snoc X10 N6 g_a1
  have f11_0 := f7_0.wr W10
  have f11_2 := F6.other W10 (Or.inr (slot_ne (Or.inr (hw _ (List.mem_of_getElem? (i := 19) rfl))) (Or.inr (hw _ (List.mem_of_getElem? (i := 21) rfl))) (by decide) (t := (.array .int)) (t' := .int) (by decide) (by decide)))
  have K12 := K8.wr W10 (Or.inl (List.mem_of_getElem? (i := 0) rfl))
  have Z10 : n0 ≤ h10.size := Nat.le_trans Z6 (Keep.of_wr W10).1
  have pre13 : ∀ t, Steps p.tables e below (T10.setTop (mkF m 14 #[.val (.ref a1), .val (.ref b1), .val (.int n)] [])) t → Steps p.tables e below (s₁.setTop (entryFrame m #[(.ref a1), (.ref b1), (.int n)] 3)) t := fun t k => pre9 t (by
    show Steps p.tables e below (T6.setTop (mkF m 11 #[.val (.ref a1), .val (.ref b1), .val (.int n)] [(.int n), (.ref a1)])) _
    refine st10 _ ?_
    show Steps p.tables e below (T10.setTop (mkF m 14 #[.val (.ref a1), .val (.ref b1), .val (.int n)] [])) _
    exact k)
  obtain ⟨fs, hr, hrun, hended, hW, hsame⟩ := X10.leave (v := none) (fun _ => rfl)
  refine ⟨_, _, pre13 _ ?_, hrun, hended, _, _, rfl, ?_, ⟨_, rfl⟩, hW, hsame.mono (by decide) (by decide)⟩
  · exact X10.returnOut hx Bd.returns (hb hby dini_14) hr
  · show Q_ini Z a1 b1 n u0 u1 h0 n0 _ T10.heap _
    rw [e10]
    exact ⟨rfl, N10, K12, f11_2, F10⟩
theorem own_nlt {c n : Int32} (h : ¬ c < 0 ∧ c < n) : c.toNatClampNeg < n.toNatClampNeg := by
  have h1 := h.1; have h2 := h.2
  rw [Int32.lt_iff_toInt_lt] at h1 h2
  have h3 : (0 : Int32).toInt = 0 := by decide
  rw [h3] at h1
  show c.toInt.toNat < n.toInt.toNat
  omega
theorem dfs_0 : decode prog_63_method_5_code 0 = .ok (.aload_n 0, 1) := by decide +kernel
theorem dfs_1 : decode prog_63_method_5_code 1 = .ok (.getfield 13, 3) := by decide +kernel
theorem dfs_4 : decode prog_63_method_5_code 4 = .ok (.newarray .int, 2) := by decide +kernel
theorem dfs_6 : decode prog_63_method_5_code 6 = .ok (.astore_n 1, 1) := by decide +kernel
theorem dfs_7 : decode prog_63_method_5_code 7 = .ok (.aload_n 0, 1) := by decide +kernel
theorem dfs_8 : decode prog_63_method_5_code 8 = .ok (.getfield 7, 3) := by decide +kernel
theorem dfs_11 : decode prog_63_method_5_code 11 = .ok (.arraylength, 1) := by decide +kernel
theorem dfs_12 : decode prog_63_method_5_code 12 = .ok (.iconst 1, 1) := by decide +kernel
theorem dfs_13 : decode prog_63_method_5_code 13 = .ok (.isub, 1) := by decide +kernel
theorem dfs_14 : decode prog_63_method_5_code 14 = .ok (.istore_n 2, 1) := by decide +kernel
theorem dfs_15 : decode prog_63_method_5_code 15 = .ok (.iload_n 2, 1) := by decide +kernel
theorem dfs_16 : decode prog_63_method_5_code 16 = .ok (.ifCond .lt 18, 3) := by decide +kernel
theorem dfs_19 : decode prog_63_method_5_code 19 = .ok (.aload_n 1, 1) := by decide +kernel
theorem dfs_20 : decode prog_63_method_5_code 20 = .ok (.aload_n 0, 1) := by decide +kernel
theorem dfs_21 : decode prog_63_method_5_code 21 = .ok (.getfield 7, 3) := by decide +kernel
theorem dfs_24 : decode prog_63_method_5_code 24 = .ok (.iload_n 2, 1) := by decide +kernel
theorem dfs_25 : decode prog_63_method_5_code 25 = .ok (.iaload, 1) := by decide +kernel
theorem dfs_26 : decode prog_63_method_5_code 26 = .ok (.iload_n 2, 1) := by decide +kernel
theorem dfs_27 : decode prog_63_method_5_code 27 = .ok (.iastore, 1) := by decide +kernel
theorem dfs_28 : decode prog_63_method_5_code 28 = .ok (.iinc 2 (-1), 3) := by decide +kernel
theorem dfs_31 : decode prog_63_method_5_code 31 = .ok (.goto (-16), 3) := by decide +kernel
theorem dfs_34 : decode prog_63_method_5_code 34 = .ok (.aload_n 1, 1) := by decide +kernel
theorem dfs_35 : decode prog_63_method_5_code 35 = .ok (.areturn, 1) := by decide +kernel
theorem pn_fs : plainName "com/example/even_odds/evenodds/relation/Partition" = true := by first | (simp [plainName, overriddenIn]; done) | decide +kernel
theorem ef_fs (m : MethodId) (a1 : Addr) : entryFrame m #[(.ref a1)] 3 = (mkF m 0 #[.val (.ref a1), .unset, .unset] []) := by first | (simp [entryFrame, mkF, argsToLocals, Value.category]; done) | rfl
def Q_fs (Z : State) (a1 b1 : Addr) (n c0 c1 c2 c3 c4 c5 : Int32) (k : ClassId) (h0 : Heap) (n0 : Nat) (v : Option Value) (h : Heap) (L : List Loc) : Prop := ∃ (br : Addr) (kr : ClassId), v = some (.ref br) ∧ Fr n0 L ∧ Keep h0 h [] ∧ n0 ≤ br ∧ h0.size ≤ br ∧ Arv Z h br kr .int n (own_r n.toNatClampNeg c0 c1 c2 c3 c4 c5) (.int 0)
set_option maxRecDepth 65536 in
set_option maxHeartbeats 40000000 in
theorem rm_fs (l : Launch) (Z : State) (a0 : Array Value) (hw : ∀ d ∈ tables_1, d.before a0 Z = true) (ws : List Jvm.Cond) (a1 b1 : Addr) (n c0 c1 c2 c3 c4 c5 : Int32) (k : ClassId) (h0 : Heap) (n0 : Nat) (Z0 : n0 ≤ h0.size) (F1 : Fld Z h0 a1 "com/example/even_odds/evenodds/relation/Partition" "classOf" "[I" (.ref b1)) (F2 : Fld Z h0 a1 "com/example/even_odds/evenodds/relation/Partition" "classCount" "I" (.int n)) (V1 : Arv Z h0 b1 k .int 6 [(.int c0), (.int c1), (.int c2), (.int c3), (.int c4), (.int c5)] (.int 0)) (hn0 : ¬ n < 0) (hn6 : n.toNatClampNeg ≤ 6) (hi0 : ¬ c0 < 0 ∧ c0 < n) (hi1 : ¬ c1 < 0 ∧ c1 < n) (hi2 : ¬ c2 < 0 ∧ c2 < n) (hi3 : ¬ c3 < 0 ∧ c3 < n) (hi4 : ¬ c4 < 0 ∧ c4 < n) (hi5 : ¬ c5 < 0 ∧ c5 < n) :
    MetFree l (⟨"com/example/even_odds/evenodds/relation/Partition", "firstStates", "()[I"⟩ : MethodName) (head1 (Jvm.Cond.code (⟨"com/example/even_odds/evenodds/relation/Partition", "firstStates", "()[I"⟩ : MethodName) prog_63_method_5_code 3 (some (.array .int)) :: ws) ({ frames := 0, cells := 1, slots := 6, locals := 0 } : Room)) (fun a U => a = #[(.ref a1)] ∧ Z.Warmed39 U.vm ∧ U.heap = h0) (fun _ _ _ _ _ => True) (fun _ U o U' => ∃ v L, o = .returned v ∧ Q_fs Z a1 b1 n c0 c1 c2 c3 c4 c5 k h0 n0 v U'.heap L ∧ FrameEnd U o U' L ({ frames := 0, cells := 1, slots := 6, locals := 0 } : Room).cells ({ frames := 0, cells := 1, slots := 6, locals := 0 } : Room).slots) := by
  refine MetFree.of_bodySF (plainFor_of_name pn_fs) hisR ?_
  intro p e s m args below meth c s₁ Bd hml0 hP hK
  obtain ⟨rfl, hZ, hh⟩ := hP
  have hx := Bd.exec
  have hby := Bd.bytes
  have hml : c.maxLocals = 3 := hml0
  have hown : s.vm.findClass "com/example/even_odds/evenodds/relation/Partition" = some m.cls := findClass_of_methodNamed Bd.named
  have hnm := (name_of_methodNamed Bd.named Bd.method).1
  have X0 : Stand p l e ({ frames := 0, cells := 1, slots := 6, locals := 0 } : Room) s m #[(.ref a1)] below meth c s₁ [] 0 0 := Stand.of_body Bd
  have e0 : s₁.heap = h0 := by rw [← hh, Bd.state]; rfl
  have N0 := Fr.nil n0
  have pre0 : ∀ t, Steps p.tables e below (s₁.setTop (mkF m 0 #[.val (.ref a1), .unset, .unset] [])) t → Steps p.tables e below (s₁.setTop (entryFrame m #[(.ref a1)] 3)) t := fun t k => castTop (ef_fs m a1) k
  have K2 : Keep h0 h0 [] := Keep.refl h0 []
  have pre3 : ∀ t, Steps p.tables e below (s₁.setTop (mkF m 1 #[.val (.ref a1), .unset, .unset] [(.ref a1)])) t → Steps p.tables e below (s₁.setTop (entryFrame m #[(.ref a1)] 3)) t := fun t k => pre0 t (by
    show Steps p.tables e below (s₁.setTop (mkF m 0 #[.val (.ref a1), .unset, .unset] [])) _
    refine XS.aloadN X0.here hx rfl (hb hby dfs_0) rfl rfl ?_
    show Steps p.tables e below (s₁.setTop (mkF m 1 #[.val (.ref a1), .unset, .unset] [(.ref a1)])) _
    exact k)
  obtain ⟨T4, X4, e4, st4⟩ := getF X0 hx hZ hown (host := "") (Or.inl (hw _ (List.mem_of_getElem? (i := 20) rfl))) Via.refl e0 F2 (g := (mkF m 1 #[.val (.ref a1), .unset, .unset] [(.ref a1)])) rfl rfl (hb hby dfs_1)
  have pre5 : ∀ t, Steps p.tables e below (T4.setTop (mkF m 4 #[.val (.ref a1), .unset, .unset] [(.int n)])) t → Steps p.tables e below (s₁.setTop (entryFrame m #[(.ref a1)] 3)) t := fun t k => pre3 t (by
    show Steps p.tables e below (s₁.setTop (mkF m 1 #[.val (.ref a1), .unset, .unset] [(.ref a1)])) _
    refine st4 _ ?_
    show Steps p.tables e below (T4.setTop (mkF m 4 #[.val (.ref a1), .unset, .unset] [(.int n)])) _
    exact k)
  obtain ⟨T6, h6, k6, X6, e6, E6, A6, st6⟩ := newP X4 hx hZ (hw _ (List.mem_of_getElem? (i := 0) rfl)) e4 (g := (mkF m 4 #[.val (.ref a1), .unset, .unset] [(.int n)])) rfl (hb hby dfs_4) rfl hn0 (cap := 6) hn6 (by decide) (by decide) (by decide)
  obtain ⟨b6, g6⟩ : ∃ z, z = h0.size := ⟨_, rfl⟩
  rw [← g6] at A6 st6
  have ne_a1_b6 : a1 ≠ b6 := Nat.ne_of_lt (Nat.lt_of_lt_of_eq F1.lt g6.symm)
  have ne_b1_b6 : b1 ≠ b6 := Nat.ne_of_lt (Nat.lt_of_lt_of_eq V1.lt g6.symm)
  have g_b6 : n0 ≤ b6 := Nat.le_trans Z0 (Nat.le_of_eq g6.symm)
  have sz_b6 : h0.size ≤ b6 := Nat.le_trans K2.1 (Nat.le_of_eq g6.symm)
  have Z6 : n0 ≤ h6.size := Nat.le_trans Z0 E6.1
  have f7_0 := F1.ext E6
  have f7_1 := F2.ext E6
  have f7_2 := V1.ext E6
  have K8 := K2.ext E6
  have V6 := Arv.new A6 hn0
  have V9 : Arv Z h6 b6 k6 .int n (List.replicate n.toNatClampNeg (.int 0)) (.int 0) := V6.pad (pad_rep [] (.int 0) n.toNatClampNeg)
  have pre10 : ∀ t, Steps p.tables e below (T6.setTop (mkF m 8 #[.val (.ref a1), .val (.ref b6), .unset] [(.ref a1)])) t → Steps p.tables e below (s₁.setTop (entryFrame m #[(.ref a1)] 3)) t := fun t k => pre5 t (by
    show Steps p.tables e below (T4.setTop (mkF m 4 #[.val (.ref a1), .unset, .unset] [(.int n)])) _
    refine st6 _ ?_
    show Steps p.tables e below (T6.setTop (mkF m 6 #[.val (.ref a1), .unset, .unset] [(.ref b6)])) _
    refine XS.astoreN X6.here hx rfl (hb hby dfs_6) rfl rfl (l' := #[.val (.ref a1), .val (.ref b6), .unset]) rfl ?_
    show Steps p.tables e below (T6.setTop (mkF m 7 #[.val (.ref a1), .val (.ref b6), .unset] [])) _
    refine XS.aloadN X6.here hx rfl (hb hby dfs_7) rfl rfl ?_
    show Steps p.tables e below (T6.setTop (mkF m 8 #[.val (.ref a1), .val (.ref b6), .unset] [(.ref a1)])) _
    exact k)
  obtain ⟨T11, X11, e11, st11⟩ := getF X6 hx hZ hown (host := "") (Or.inl (hw _ (List.mem_of_getElem? (i := 18) rfl))) Via.refl e6 f7_0 (g := (mkF m 8 #[.val (.ref a1), .val (.ref b6), .unset] [(.ref a1)])) rfl rfl (hb hby dfs_8)
  obtain ⟨cl12, Ar12, kc12, S12, M12, H12, G12⟩ := id f7_2
  have pre13 : ∀ t, Steps p.tables e below (T11.setTop (mkF m 21 #[.val (.ref a1), .val (.ref b6), .val (.int (5 : Int32))] [(.ref a1), (.ref b6)])) t → Steps p.tables e below (s₁.setTop (entryFrame m #[(.ref a1)] 3)) t := fun t k => pre10 t (by
    show Steps p.tables e below (T6.setTop (mkF m 8 #[.val (.ref a1), .val (.ref b6), .unset] [(.ref a1)])) _
    refine st11 _ ?_
    show Steps p.tables e below (T11.setTop (mkF m 11 #[.val (.ref a1), .val (.ref b6), .unset] [(.ref b1)])) _
    refine X11.arraylength hx (cell := cl12) (by rw [e11]; exact Ar12.1) (State.isArrayOf_alike hZ.alike Ar12.2.1) (g := (mkF m 11 #[.val (.ref a1), .val (.ref b6), .unset] [(.ref b1)])) rfl (rest := []) rfl (hb hby dfs_11) _ ?_
    rw [len_of S12 M12]
    show Steps p.tables e below (T11.setTop (mkF m 12 #[.val (.ref a1), .val (.ref b6), .unset] [(.int 6)])) _
    refine XS.iconst X11.here hx rfl (hb hby dfs_12) ?_
    show Steps p.tables e below (T11.setTop (mkF m 13 #[.val (.ref a1), .val (.ref b6), .unset] [(.int (1 : Int32)), (.int 6)])) _
    refine XS.isub X11.here hx rfl (hb hby dfs_13) rfl ?_
    show Steps p.tables e below (T11.setTop (mkF m 14 #[.val (.ref a1), .val (.ref b6), .unset] [(.int (6 - (1 : Int32)))])) _
    rw [show ((6 : Int32) - (1 : Int32)) = (5 : Int32) from by decide]
    show Steps p.tables e below (T11.setTop (mkF m 14 #[.val (.ref a1), .val (.ref b6), .unset] [(.int (5 : Int32))])) _
    refine XS.istoreN X11.here hx rfl (hb hby dfs_14) rfl (l' := #[.val (.ref a1), .val (.ref b6), .val (.int (5 : Int32))]) rfl ?_
    show Steps p.tables e below (T11.setTop (mkF m 15 #[.val (.ref a1), .val (.ref b6), .val (.int (5 : Int32))] [])) _
    refine XS.iloadN X11.here hx rfl (hb hby dfs_15) rfl ?_
    show Steps p.tables e below (T11.setTop (mkF m 16 #[.val (.ref a1), .val (.ref b6), .val (.int (5 : Int32))] [(.int (5 : Int32))])) _
    refine XS.ifNo X11.here hx rfl (hb hby dfs_16) rfl (XT.i0_lt_f (by decide)) ?_
    show Steps p.tables e below (T11.setTop (mkF m 19 #[.val (.ref a1), .val (.ref b6), .val (.int (5 : Int32))] [])) _
    refine XS.aloadN X11.here hx rfl (hb hby dfs_19) rfl rfl ?_
    show Steps p.tables e below (T11.setTop (mkF m 20 #[.val (.ref a1), .val (.ref b6), .val (.int (5 : Int32))] [(.ref b6)])) _
    refine XS.aloadN X11.here hx rfl (hb hby dfs_20) rfl rfl ?_
    show Steps p.tables e below (T11.setTop (mkF m 21 #[.val (.ref a1), .val (.ref b6), .val (.int (5 : Int32))] [(.ref a1), (.ref b6)])) _
    exact k)
  obtain ⟨T14, X14, e14, st14⟩ := getF X11 hx hZ hown (host := "") (Or.inl (hw _ (List.mem_of_getElem? (i := 18) rfl))) Via.refl e11 f7_0 (g := (mkF m 21 #[.val (.ref a1), .val (.ref b6), .val (.int (5 : Int32))] [(.ref a1), (.ref b6)])) rfl rfl (hb hby dfs_21)
  obtain ⟨cl15, Ar15, kc15, S15, M15, H15, G15⟩ := id f7_2
  have hin15 := inb_of S15 (j := (5 : Int32)) (by decide)
  have hat15 : cl15.slots[((5 : Int32)).toNatClampNeg]? = some (.int c5) := H15.at hin15 rfl
  have pre16 : ∀ t, Steps p.tables e below (T14.setTop (mkF m 27 #[.val (.ref a1), .val (.ref b6), .val (.int (5 : Int32))] [(.int (5 : Int32)), (.int c5), (.ref b6)])) t → Steps p.tables e below (s₁.setTop (entryFrame m #[(.ref a1)] 3)) t := fun t k => pre13 t (by
    show Steps p.tables e below (T11.setTop (mkF m 21 #[.val (.ref a1), .val (.ref b6), .val (.int (5 : Int32))] [(.ref a1), (.ref b6)])) _
    refine st14 _ ?_
    show Steps p.tables e below (T14.setTop (mkF m 24 #[.val (.ref a1), .val (.ref b6), .val (.int (5 : Int32))] [(.ref b1), (.ref b6)])) _
    refine XS.iloadN X14.here hx rfl (hb hby dfs_24) rfl ?_
    show Steps p.tables e below (T14.setTop (mkF m 25 #[.val (.ref a1), .val (.ref b6), .val (.int (5 : Int32))] [(.int (5 : Int32)), (.ref b1), (.ref b6)])) _
    refine X14.iaload hx (j := (5 : Int32)) (v := (.int c5)) (by rw [e14]; exact Ar15.1) (State.isArrayOf_alike hZ.alike Ar15.2.1) Ar15.2.2 hin15 hat15 (g := (mkF m 25 #[.val (.ref a1), .val (.ref b6), .val (.int (5 : Int32))] [(.int (5 : Int32)), (.ref b1), (.ref b6)])) rfl rfl (hb hby dfs_25) _ ?_
    show Steps p.tables e below (T14.setTop (mkF m 26 #[.val (.ref a1), .val (.ref b6), .val (.int (5 : Int32))] [(.int c5), (.ref b6)])) _
    refine XS.iloadN X14.here hx rfl (hb hby dfs_26) rfl ?_
    show Steps p.tables e below (T14.setTop (mkF m 27 #[.val (.ref a1), .val (.ref b6), .val (.int (5 : Int32))] [(.int (5 : Int32)), (.int c5), (.ref b6)])) _
    exact k)
  obtain ⟨cl17, Ar17, kc17, S17, M17, H17, G17⟩ := id V9
  have hin17 := inb_of S17 (j := c5) hi5
  obtain ⟨T17, h17, X17, e17, W17, st17⟩ := stI X14 hx hZ e14 Ar17 (j := c5) hin17 (g := (mkF m 27 #[.val (.ref a1), .val (.ref b6), .val (.int (5 : Int32))] [(.int (5 : Int32)), (.int c5), (.ref b6)])) rfl rfl (hb hby dfs_27)
  have V17 : Arv Z h17 b6 k6 .int n ((List.replicate n.toNatClampNeg (.int 0)).set c5.toNatClampNeg (.int 5)) (.int 0) := Arv.set Ar17 kc17 S17 M17 H17 G17 (v := (.int (5 : Int32))) rfl W17 c5.toNatClampNeg rfl (by simp only [List.length_set, List.length_replicate]; exact own_nlt hi5)
  have N17 := Fr.snoc X17 N0 g_b6
  have f18_0 := f7_0.other W17 (Or.inl ne_a1_b6)
  have f18_1 := f7_1.other W17 (Or.inl ne_a1_b6)
  have f18_2 := f7_2.other W17 ne_b1_b6
  have K19 := K8.wr W17 (Or.inr sz_b6)
  have Z17 : n0 ≤ h17.size := Nat.le_trans Z6 (Keep.of_wr W17).1
  have pre20 : ∀ t, Steps p.tables e below (T17.setTop (mkF m 21 #[.val (.ref a1), .val (.ref b6), .val (.int (4 : Int32))] [(.ref a1), (.ref b6)])) t → Steps p.tables e below (s₁.setTop (entryFrame m #[(.ref a1)] 3)) t := fun t k => pre16 t (by
    show Steps p.tables e below (T14.setTop (mkF m 27 #[.val (.ref a1), .val (.ref b6), .val (.int (5 : Int32))] [(.int (5 : Int32)), (.int c5), (.ref b6)])) _
    refine st17 _ ?_
    show Steps p.tables e below (T17.setTop (mkF m 28 #[.val (.ref a1), .val (.ref b6), .val (.int (5 : Int32))] [])) _
    refine XT.iincV X17.here hx rfl (-1 : Int32) (hb hby dfs_28) (by decide) rfl (l' := #[.val (.ref a1), .val (.ref b6), .val (.int ((5 : Int32) + (-1 : Int32)))]) rfl ?_
    show Steps p.tables e below (T17.setTop (mkF m 31 #[.val (.ref a1), .val (.ref b6), .val (.int ((5 : Int32) + (-1 : Int32)))] [])) _
    rw [show ((5 : Int32) + (-1 : Int32)) = (4 : Int32) from by decide]
    show Steps p.tables e below (T17.setTop (mkF m 31 #[.val (.ref a1), .val (.ref b6), .val (.int (4 : Int32))] [])) _
    refine XS.goto X17.here hx rfl (pc0 := 31) (pc' := 15) rfl (hb hby dfs_31) (by decide) (by decide) ?_
    show Steps p.tables e below (T17.setTop (mkF m 15 #[.val (.ref a1), .val (.ref b6), .val (.int (4 : Int32))] [])) _
    refine XS.iloadN X17.here hx rfl (hb hby dfs_15) rfl ?_
    show Steps p.tables e below (T17.setTop (mkF m 16 #[.val (.ref a1), .val (.ref b6), .val (.int (4 : Int32))] [(.int (4 : Int32))])) _
    refine XS.ifNo X17.here hx rfl (hb hby dfs_16) rfl (XT.i0_lt_f (by decide)) ?_
    show Steps p.tables e below (T17.setTop (mkF m 19 #[.val (.ref a1), .val (.ref b6), .val (.int (4 : Int32))] [])) _
    refine XS.aloadN X17.here hx rfl (hb hby dfs_19) rfl rfl ?_
    show Steps p.tables e below (T17.setTop (mkF m 20 #[.val (.ref a1), .val (.ref b6), .val (.int (4 : Int32))] [(.ref b6)])) _
    refine XS.aloadN X17.here hx rfl (hb hby dfs_20) rfl rfl ?_
    show Steps p.tables e below (T17.setTop (mkF m 21 #[.val (.ref a1), .val (.ref b6), .val (.int (4 : Int32))] [(.ref a1), (.ref b6)])) _
    exact k)
  obtain ⟨T21, X21, e21, st21⟩ := getF X17 hx hZ hown (host := "") (Or.inl (hw _ (List.mem_of_getElem? (i := 18) rfl))) Via.refl e17 f18_0 (g := (mkF m 21 #[.val (.ref a1), .val (.ref b6), .val (.int (4 : Int32))] [(.ref a1), (.ref b6)])) rfl rfl (hb hby dfs_21)
  obtain ⟨cl22, Ar22, kc22, S22, M22, H22, G22⟩ := id f18_2
  have hin22 := inb_of S22 (j := (4 : Int32)) (by decide)
  have hat22 : cl22.slots[((4 : Int32)).toNatClampNeg]? = some (.int c4) := H22.at hin22 rfl
  have pre23 : ∀ t, Steps p.tables e below (T21.setTop (mkF m 27 #[.val (.ref a1), .val (.ref b6), .val (.int (4 : Int32))] [(.int (4 : Int32)), (.int c4), (.ref b6)])) t → Steps p.tables e below (s₁.setTop (entryFrame m #[(.ref a1)] 3)) t := fun t k => pre20 t (by
    show Steps p.tables e below (T17.setTop (mkF m 21 #[.val (.ref a1), .val (.ref b6), .val (.int (4 : Int32))] [(.ref a1), (.ref b6)])) _
    refine st21 _ ?_
    show Steps p.tables e below (T21.setTop (mkF m 24 #[.val (.ref a1), .val (.ref b6), .val (.int (4 : Int32))] [(.ref b1), (.ref b6)])) _
    refine XS.iloadN X21.here hx rfl (hb hby dfs_24) rfl ?_
    show Steps p.tables e below (T21.setTop (mkF m 25 #[.val (.ref a1), .val (.ref b6), .val (.int (4 : Int32))] [(.int (4 : Int32)), (.ref b1), (.ref b6)])) _
    refine X21.iaload hx (j := (4 : Int32)) (v := (.int c4)) (by rw [e21]; exact Ar22.1) (State.isArrayOf_alike hZ.alike Ar22.2.1) Ar22.2.2 hin22 hat22 (g := (mkF m 25 #[.val (.ref a1), .val (.ref b6), .val (.int (4 : Int32))] [(.int (4 : Int32)), (.ref b1), (.ref b6)])) rfl rfl (hb hby dfs_25) _ ?_
    show Steps p.tables e below (T21.setTop (mkF m 26 #[.val (.ref a1), .val (.ref b6), .val (.int (4 : Int32))] [(.int c4), (.ref b6)])) _
    refine XS.iloadN X21.here hx rfl (hb hby dfs_26) rfl ?_
    show Steps p.tables e below (T21.setTop (mkF m 27 #[.val (.ref a1), .val (.ref b6), .val (.int (4 : Int32))] [(.int (4 : Int32)), (.int c4), (.ref b6)])) _
    exact k)
  obtain ⟨cl24, Ar24, kc24, S24, M24, H24, G24⟩ := id V17
  have hin24 := inb_of S24 (j := c4) hi4
  obtain ⟨T24, h24, X24, e24, W24, st24⟩ := stI X21 hx hZ e21 Ar24 (j := c4) hin24 (g := (mkF m 27 #[.val (.ref a1), .val (.ref b6), .val (.int (4 : Int32))] [(.int (4 : Int32)), (.int c4), (.ref b6)])) rfl rfl (hb hby dfs_27)
  have V24 : Arv Z h24 b6 k6 .int n (((List.replicate n.toNatClampNeg (.int 0)).set c5.toNatClampNeg (.int 5)).set c4.toNatClampNeg (.int 4)) (.int 0) := Arv.set Ar24 kc24 S24 M24 H24 G24 (v := (.int (4 : Int32))) rfl W24 c4.toNatClampNeg rfl (by simp only [List.length_set, List.length_replicate]; exact own_nlt hi4)
  have N24 := Fr.snoc X24 N17 g_b6
  have f25_0 := f18_0.other W24 (Or.inl ne_a1_b6)
  have f25_1 := f18_1.other W24 (Or.inl ne_a1_b6)
  have f25_2 := f18_2.other W24 ne_b1_b6
  have K26 := K19.wr W24 (Or.inr sz_b6)
  have Z24 : n0 ≤ h24.size := Nat.le_trans Z17 (Keep.of_wr W24).1
  have pre27 : ∀ t, Steps p.tables e below (T24.setTop (mkF m 21 #[.val (.ref a1), .val (.ref b6), .val (.int (3 : Int32))] [(.ref a1), (.ref b6)])) t → Steps p.tables e below (s₁.setTop (entryFrame m #[(.ref a1)] 3)) t := fun t k => pre23 t (by
    show Steps p.tables e below (T21.setTop (mkF m 27 #[.val (.ref a1), .val (.ref b6), .val (.int (4 : Int32))] [(.int (4 : Int32)), (.int c4), (.ref b6)])) _
    refine st24 _ ?_
    show Steps p.tables e below (T24.setTop (mkF m 28 #[.val (.ref a1), .val (.ref b6), .val (.int (4 : Int32))] [])) _
    refine XT.iincV X24.here hx rfl (-1 : Int32) (hb hby dfs_28) (by decide) rfl (l' := #[.val (.ref a1), .val (.ref b6), .val (.int ((4 : Int32) + (-1 : Int32)))]) rfl ?_
    show Steps p.tables e below (T24.setTop (mkF m 31 #[.val (.ref a1), .val (.ref b6), .val (.int ((4 : Int32) + (-1 : Int32)))] [])) _
    rw [show ((4 : Int32) + (-1 : Int32)) = (3 : Int32) from by decide]
    show Steps p.tables e below (T24.setTop (mkF m 31 #[.val (.ref a1), .val (.ref b6), .val (.int (3 : Int32))] [])) _
    refine XS.goto X24.here hx rfl (pc0 := 31) (pc' := 15) rfl (hb hby dfs_31) (by decide) (by decide) ?_
    show Steps p.tables e below (T24.setTop (mkF m 15 #[.val (.ref a1), .val (.ref b6), .val (.int (3 : Int32))] [])) _
    refine XS.iloadN X24.here hx rfl (hb hby dfs_15) rfl ?_
    show Steps p.tables e below (T24.setTop (mkF m 16 #[.val (.ref a1), .val (.ref b6), .val (.int (3 : Int32))] [(.int (3 : Int32))])) _
    refine XS.ifNo X24.here hx rfl (hb hby dfs_16) rfl (XT.i0_lt_f (by decide)) ?_
    show Steps p.tables e below (T24.setTop (mkF m 19 #[.val (.ref a1), .val (.ref b6), .val (.int (3 : Int32))] [])) _
    refine XS.aloadN X24.here hx rfl (hb hby dfs_19) rfl rfl ?_
    show Steps p.tables e below (T24.setTop (mkF m 20 #[.val (.ref a1), .val (.ref b6), .val (.int (3 : Int32))] [(.ref b6)])) _
    refine XS.aloadN X24.here hx rfl (hb hby dfs_20) rfl rfl ?_
    show Steps p.tables e below (T24.setTop (mkF m 21 #[.val (.ref a1), .val (.ref b6), .val (.int (3 : Int32))] [(.ref a1), (.ref b6)])) _
    exact k)
  obtain ⟨T28, X28, e28, st28⟩ := getF X24 hx hZ hown (host := "") (Or.inl (hw _ (List.mem_of_getElem? (i := 18) rfl))) Via.refl e24 f25_0 (g := (mkF m 21 #[.val (.ref a1), .val (.ref b6), .val (.int (3 : Int32))] [(.ref a1), (.ref b6)])) rfl rfl (hb hby dfs_21)
  obtain ⟨cl29, Ar29, kc29, S29, M29, H29, G29⟩ := id f25_2
  have hin29 := inb_of S29 (j := (3 : Int32)) (by decide)
  have hat29 : cl29.slots[((3 : Int32)).toNatClampNeg]? = some (.int c3) := H29.at hin29 rfl
  have pre30 : ∀ t, Steps p.tables e below (T28.setTop (mkF m 27 #[.val (.ref a1), .val (.ref b6), .val (.int (3 : Int32))] [(.int (3 : Int32)), (.int c3), (.ref b6)])) t → Steps p.tables e below (s₁.setTop (entryFrame m #[(.ref a1)] 3)) t := fun t k => pre27 t (by
    show Steps p.tables e below (T24.setTop (mkF m 21 #[.val (.ref a1), .val (.ref b6), .val (.int (3 : Int32))] [(.ref a1), (.ref b6)])) _
    refine st28 _ ?_
    show Steps p.tables e below (T28.setTop (mkF m 24 #[.val (.ref a1), .val (.ref b6), .val (.int (3 : Int32))] [(.ref b1), (.ref b6)])) _
    refine XS.iloadN X28.here hx rfl (hb hby dfs_24) rfl ?_
    show Steps p.tables e below (T28.setTop (mkF m 25 #[.val (.ref a1), .val (.ref b6), .val (.int (3 : Int32))] [(.int (3 : Int32)), (.ref b1), (.ref b6)])) _
    refine X28.iaload hx (j := (3 : Int32)) (v := (.int c3)) (by rw [e28]; exact Ar29.1) (State.isArrayOf_alike hZ.alike Ar29.2.1) Ar29.2.2 hin29 hat29 (g := (mkF m 25 #[.val (.ref a1), .val (.ref b6), .val (.int (3 : Int32))] [(.int (3 : Int32)), (.ref b1), (.ref b6)])) rfl rfl (hb hby dfs_25) _ ?_
    show Steps p.tables e below (T28.setTop (mkF m 26 #[.val (.ref a1), .val (.ref b6), .val (.int (3 : Int32))] [(.int c3), (.ref b6)])) _
    refine XS.iloadN X28.here hx rfl (hb hby dfs_26) rfl ?_
    show Steps p.tables e below (T28.setTop (mkF m 27 #[.val (.ref a1), .val (.ref b6), .val (.int (3 : Int32))] [(.int (3 : Int32)), (.int c3), (.ref b6)])) _
    exact k)
  obtain ⟨cl31, Ar31, kc31, S31, M31, H31, G31⟩ := id V24
  have hin31 := inb_of S31 (j := c3) hi3
  obtain ⟨T31, h31, X31, e31, W31, st31⟩ := stI X28 hx hZ e28 Ar31 (j := c3) hin31 (g := (mkF m 27 #[.val (.ref a1), .val (.ref b6), .val (.int (3 : Int32))] [(.int (3 : Int32)), (.int c3), (.ref b6)])) rfl rfl (hb hby dfs_27)
  have V31 : Arv Z h31 b6 k6 .int n ((((List.replicate n.toNatClampNeg (.int 0)).set c5.toNatClampNeg (.int 5)).set c4.toNatClampNeg (.int 4)).set c3.toNatClampNeg (.int 3)) (.int 0) := Arv.set Ar31 kc31 S31 M31 H31 G31 (v := (.int (3 : Int32))) rfl W31 c3.toNatClampNeg rfl (by simp only [List.length_set, List.length_replicate]; exact own_nlt hi3)
  have N31 := Fr.snoc X31 N24 g_b6
  have f32_0 := f25_0.other W31 (Or.inl ne_a1_b6)
  have f32_1 := f25_1.other W31 (Or.inl ne_a1_b6)
  have f32_2 := f25_2.other W31 ne_b1_b6
  have K33 := K26.wr W31 (Or.inr sz_b6)
  have Z31 : n0 ≤ h31.size := Nat.le_trans Z24 (Keep.of_wr W31).1
  have pre34 : ∀ t, Steps p.tables e below (T31.setTop (mkF m 21 #[.val (.ref a1), .val (.ref b6), .val (.int (2 : Int32))] [(.ref a1), (.ref b6)])) t → Steps p.tables e below (s₁.setTop (entryFrame m #[(.ref a1)] 3)) t := fun t k => pre30 t (by
    show Steps p.tables e below (T28.setTop (mkF m 27 #[.val (.ref a1), .val (.ref b6), .val (.int (3 : Int32))] [(.int (3 : Int32)), (.int c3), (.ref b6)])) _
    refine st31 _ ?_
    show Steps p.tables e below (T31.setTop (mkF m 28 #[.val (.ref a1), .val (.ref b6), .val (.int (3 : Int32))] [])) _
    refine XT.iincV X31.here hx rfl (-1 : Int32) (hb hby dfs_28) (by decide) rfl (l' := #[.val (.ref a1), .val (.ref b6), .val (.int ((3 : Int32) + (-1 : Int32)))]) rfl ?_
    show Steps p.tables e below (T31.setTop (mkF m 31 #[.val (.ref a1), .val (.ref b6), .val (.int ((3 : Int32) + (-1 : Int32)))] [])) _
    rw [show ((3 : Int32) + (-1 : Int32)) = (2 : Int32) from by decide]
    show Steps p.tables e below (T31.setTop (mkF m 31 #[.val (.ref a1), .val (.ref b6), .val (.int (2 : Int32))] [])) _
    refine XS.goto X31.here hx rfl (pc0 := 31) (pc' := 15) rfl (hb hby dfs_31) (by decide) (by decide) ?_
    show Steps p.tables e below (T31.setTop (mkF m 15 #[.val (.ref a1), .val (.ref b6), .val (.int (2 : Int32))] [])) _
    refine XS.iloadN X31.here hx rfl (hb hby dfs_15) rfl ?_
    show Steps p.tables e below (T31.setTop (mkF m 16 #[.val (.ref a1), .val (.ref b6), .val (.int (2 : Int32))] [(.int (2 : Int32))])) _
    refine XS.ifNo X31.here hx rfl (hb hby dfs_16) rfl (XT.i0_lt_f (by decide)) ?_
    show Steps p.tables e below (T31.setTop (mkF m 19 #[.val (.ref a1), .val (.ref b6), .val (.int (2 : Int32))] [])) _
    refine XS.aloadN X31.here hx rfl (hb hby dfs_19) rfl rfl ?_
    show Steps p.tables e below (T31.setTop (mkF m 20 #[.val (.ref a1), .val (.ref b6), .val (.int (2 : Int32))] [(.ref b6)])) _
    refine XS.aloadN X31.here hx rfl (hb hby dfs_20) rfl rfl ?_
    show Steps p.tables e below (T31.setTop (mkF m 21 #[.val (.ref a1), .val (.ref b6), .val (.int (2 : Int32))] [(.ref a1), (.ref b6)])) _
    exact k)
  obtain ⟨T35, X35, e35, st35⟩ := getF X31 hx hZ hown (host := "") (Or.inl (hw _ (List.mem_of_getElem? (i := 18) rfl))) Via.refl e31 f32_0 (g := (mkF m 21 #[.val (.ref a1), .val (.ref b6), .val (.int (2 : Int32))] [(.ref a1), (.ref b6)])) rfl rfl (hb hby dfs_21)
  obtain ⟨cl36, Ar36, kc36, S36, M36, H36, G36⟩ := id f32_2
  have hin36 := inb_of S36 (j := (2 : Int32)) (by decide)
  have hat36 : cl36.slots[((2 : Int32)).toNatClampNeg]? = some (.int c2) := H36.at hin36 rfl
  have pre37 : ∀ t, Steps p.tables e below (T35.setTop (mkF m 27 #[.val (.ref a1), .val (.ref b6), .val (.int (2 : Int32))] [(.int (2 : Int32)), (.int c2), (.ref b6)])) t → Steps p.tables e below (s₁.setTop (entryFrame m #[(.ref a1)] 3)) t := fun t k => pre34 t (by
    show Steps p.tables e below (T31.setTop (mkF m 21 #[.val (.ref a1), .val (.ref b6), .val (.int (2 : Int32))] [(.ref a1), (.ref b6)])) _
    refine st35 _ ?_
    show Steps p.tables e below (T35.setTop (mkF m 24 #[.val (.ref a1), .val (.ref b6), .val (.int (2 : Int32))] [(.ref b1), (.ref b6)])) _
    refine XS.iloadN X35.here hx rfl (hb hby dfs_24) rfl ?_
    show Steps p.tables e below (T35.setTop (mkF m 25 #[.val (.ref a1), .val (.ref b6), .val (.int (2 : Int32))] [(.int (2 : Int32)), (.ref b1), (.ref b6)])) _
    refine X35.iaload hx (j := (2 : Int32)) (v := (.int c2)) (by rw [e35]; exact Ar36.1) (State.isArrayOf_alike hZ.alike Ar36.2.1) Ar36.2.2 hin36 hat36 (g := (mkF m 25 #[.val (.ref a1), .val (.ref b6), .val (.int (2 : Int32))] [(.int (2 : Int32)), (.ref b1), (.ref b6)])) rfl rfl (hb hby dfs_25) _ ?_
    show Steps p.tables e below (T35.setTop (mkF m 26 #[.val (.ref a1), .val (.ref b6), .val (.int (2 : Int32))] [(.int c2), (.ref b6)])) _
    refine XS.iloadN X35.here hx rfl (hb hby dfs_26) rfl ?_
    show Steps p.tables e below (T35.setTop (mkF m 27 #[.val (.ref a1), .val (.ref b6), .val (.int (2 : Int32))] [(.int (2 : Int32)), (.int c2), (.ref b6)])) _
    exact k)
  obtain ⟨cl38, Ar38, kc38, S38, M38, H38, G38⟩ := id V31
  have hin38 := inb_of S38 (j := c2) hi2
  obtain ⟨T38, h38, X38, e38, W38, st38⟩ := stI X35 hx hZ e35 Ar38 (j := c2) hin38 (g := (mkF m 27 #[.val (.ref a1), .val (.ref b6), .val (.int (2 : Int32))] [(.int (2 : Int32)), (.int c2), (.ref b6)])) rfl rfl (hb hby dfs_27)
  have V38 : Arv Z h38 b6 k6 .int n (((((List.replicate n.toNatClampNeg (.int 0)).set c5.toNatClampNeg (.int 5)).set c4.toNatClampNeg (.int 4)).set c3.toNatClampNeg (.int 3)).set c2.toNatClampNeg (.int 2)) (.int 0) := Arv.set Ar38 kc38 S38 M38 H38 G38 (v := (.int (2 : Int32))) rfl W38 c2.toNatClampNeg rfl (by simp only [List.length_set, List.length_replicate]; exact own_nlt hi2)
  have N38 := Fr.snoc X38 N31 g_b6
  have f39_0 := f32_0.other W38 (Or.inl ne_a1_b6)
  have f39_1 := f32_1.other W38 (Or.inl ne_a1_b6)
  have f39_2 := f32_2.other W38 ne_b1_b6
  have K40 := K33.wr W38 (Or.inr sz_b6)
  have Z38 : n0 ≤ h38.size := Nat.le_trans Z31 (Keep.of_wr W38).1
  have pre41 : ∀ t, Steps p.tables e below (T38.setTop (mkF m 21 #[.val (.ref a1), .val (.ref b6), .val (.int (1 : Int32))] [(.ref a1), (.ref b6)])) t → Steps p.tables e below (s₁.setTop (entryFrame m #[(.ref a1)] 3)) t := fun t k => pre37 t (by
    show Steps p.tables e below (T35.setTop (mkF m 27 #[.val (.ref a1), .val (.ref b6), .val (.int (2 : Int32))] [(.int (2 : Int32)), (.int c2), (.ref b6)])) _
    refine st38 _ ?_
    show Steps p.tables e below (T38.setTop (mkF m 28 #[.val (.ref a1), .val (.ref b6), .val (.int (2 : Int32))] [])) _
    refine XT.iincV X38.here hx rfl (-1 : Int32) (hb hby dfs_28) (by decide) rfl (l' := #[.val (.ref a1), .val (.ref b6), .val (.int ((2 : Int32) + (-1 : Int32)))]) rfl ?_
    show Steps p.tables e below (T38.setTop (mkF m 31 #[.val (.ref a1), .val (.ref b6), .val (.int ((2 : Int32) + (-1 : Int32)))] [])) _
    rw [show ((2 : Int32) + (-1 : Int32)) = (1 : Int32) from by decide]
    show Steps p.tables e below (T38.setTop (mkF m 31 #[.val (.ref a1), .val (.ref b6), .val (.int (1 : Int32))] [])) _
    refine XS.goto X38.here hx rfl (pc0 := 31) (pc' := 15) rfl (hb hby dfs_31) (by decide) (by decide) ?_
    show Steps p.tables e below (T38.setTop (mkF m 15 #[.val (.ref a1), .val (.ref b6), .val (.int (1 : Int32))] [])) _
    refine XS.iloadN X38.here hx rfl (hb hby dfs_15) rfl ?_
    show Steps p.tables e below (T38.setTop (mkF m 16 #[.val (.ref a1), .val (.ref b6), .val (.int (1 : Int32))] [(.int (1 : Int32))])) _
    refine XS.ifNo X38.here hx rfl (hb hby dfs_16) rfl (XT.i0_lt_f (by decide)) ?_
    show Steps p.tables e below (T38.setTop (mkF m 19 #[.val (.ref a1), .val (.ref b6), .val (.int (1 : Int32))] [])) _
    refine XS.aloadN X38.here hx rfl (hb hby dfs_19) rfl rfl ?_
    show Steps p.tables e below (T38.setTop (mkF m 20 #[.val (.ref a1), .val (.ref b6), .val (.int (1 : Int32))] [(.ref b6)])) _
    refine XS.aloadN X38.here hx rfl (hb hby dfs_20) rfl rfl ?_
    show Steps p.tables e below (T38.setTop (mkF m 21 #[.val (.ref a1), .val (.ref b6), .val (.int (1 : Int32))] [(.ref a1), (.ref b6)])) _
    exact k)
  obtain ⟨T42, X42, e42, st42⟩ := getF X38 hx hZ hown (host := "") (Or.inl (hw _ (List.mem_of_getElem? (i := 18) rfl))) Via.refl e38 f39_0 (g := (mkF m 21 #[.val (.ref a1), .val (.ref b6), .val (.int (1 : Int32))] [(.ref a1), (.ref b6)])) rfl rfl (hb hby dfs_21)
  obtain ⟨cl43, Ar43, kc43, S43, M43, H43, G43⟩ := id f39_2
  have hin43 := inb_of S43 (j := (1 : Int32)) (by decide)
  have hat43 : cl43.slots[((1 : Int32)).toNatClampNeg]? = some (.int c1) := H43.at hin43 rfl
  have pre44 : ∀ t, Steps p.tables e below (T42.setTop (mkF m 27 #[.val (.ref a1), .val (.ref b6), .val (.int (1 : Int32))] [(.int (1 : Int32)), (.int c1), (.ref b6)])) t → Steps p.tables e below (s₁.setTop (entryFrame m #[(.ref a1)] 3)) t := fun t k => pre41 t (by
    show Steps p.tables e below (T38.setTop (mkF m 21 #[.val (.ref a1), .val (.ref b6), .val (.int (1 : Int32))] [(.ref a1), (.ref b6)])) _
    refine st42 _ ?_
    show Steps p.tables e below (T42.setTop (mkF m 24 #[.val (.ref a1), .val (.ref b6), .val (.int (1 : Int32))] [(.ref b1), (.ref b6)])) _
    refine XS.iloadN X42.here hx rfl (hb hby dfs_24) rfl ?_
    show Steps p.tables e below (T42.setTop (mkF m 25 #[.val (.ref a1), .val (.ref b6), .val (.int (1 : Int32))] [(.int (1 : Int32)), (.ref b1), (.ref b6)])) _
    refine X42.iaload hx (j := (1 : Int32)) (v := (.int c1)) (by rw [e42]; exact Ar43.1) (State.isArrayOf_alike hZ.alike Ar43.2.1) Ar43.2.2 hin43 hat43 (g := (mkF m 25 #[.val (.ref a1), .val (.ref b6), .val (.int (1 : Int32))] [(.int (1 : Int32)), (.ref b1), (.ref b6)])) rfl rfl (hb hby dfs_25) _ ?_
    show Steps p.tables e below (T42.setTop (mkF m 26 #[.val (.ref a1), .val (.ref b6), .val (.int (1 : Int32))] [(.int c1), (.ref b6)])) _
    refine XS.iloadN X42.here hx rfl (hb hby dfs_26) rfl ?_
    show Steps p.tables e below (T42.setTop (mkF m 27 #[.val (.ref a1), .val (.ref b6), .val (.int (1 : Int32))] [(.int (1 : Int32)), (.int c1), (.ref b6)])) _
    exact k)
  obtain ⟨cl45, Ar45, kc45, S45, M45, H45, G45⟩ := id V38
  have hin45 := inb_of S45 (j := c1) hi1
  obtain ⟨T45, h45, X45, e45, W45, st45⟩ := stI X42 hx hZ e42 Ar45 (j := c1) hin45 (g := (mkF m 27 #[.val (.ref a1), .val (.ref b6), .val (.int (1 : Int32))] [(.int (1 : Int32)), (.int c1), (.ref b6)])) rfl rfl (hb hby dfs_27)
  have V45 : Arv Z h45 b6 k6 .int n ((((((List.replicate n.toNatClampNeg (.int 0)).set c5.toNatClampNeg (.int 5)).set c4.toNatClampNeg (.int 4)).set c3.toNatClampNeg (.int 3)).set c2.toNatClampNeg (.int 2)).set c1.toNatClampNeg (.int 1)) (.int 0) := Arv.set Ar45 kc45 S45 M45 H45 G45 (v := (.int (1 : Int32))) rfl W45 c1.toNatClampNeg rfl (by simp only [List.length_set, List.length_replicate]; exact own_nlt hi1)
  have N45 := Fr.snoc X45 N38 g_b6
  have f46_0 := f39_0.other W45 (Or.inl ne_a1_b6)
  have f46_1 := f39_1.other W45 (Or.inl ne_a1_b6)
  have f46_2 := f39_2.other W45 ne_b1_b6
  have K47 := K40.wr W45 (Or.inr sz_b6)
  have Z45 : n0 ≤ h45.size := Nat.le_trans Z38 (Keep.of_wr W45).1
  have pre48 : ∀ t, Steps p.tables e below (T45.setTop (mkF m 21 #[.val (.ref a1), .val (.ref b6), .val (.int (0 : Int32))] [(.ref a1), (.ref b6)])) t → Steps p.tables e below (s₁.setTop (entryFrame m #[(.ref a1)] 3)) t := fun t k => pre44 t (by
    show Steps p.tables e below (T42.setTop (mkF m 27 #[.val (.ref a1), .val (.ref b6), .val (.int (1 : Int32))] [(.int (1 : Int32)), (.int c1), (.ref b6)])) _
    refine st45 _ ?_
    show Steps p.tables e below (T45.setTop (mkF m 28 #[.val (.ref a1), .val (.ref b6), .val (.int (1 : Int32))] [])) _
    refine XT.iincV X45.here hx rfl (-1 : Int32) (hb hby dfs_28) (by decide) rfl (l' := #[.val (.ref a1), .val (.ref b6), .val (.int ((1 : Int32) + (-1 : Int32)))]) rfl ?_
    show Steps p.tables e below (T45.setTop (mkF m 31 #[.val (.ref a1), .val (.ref b6), .val (.int ((1 : Int32) + (-1 : Int32)))] [])) _
    rw [show ((1 : Int32) + (-1 : Int32)) = (0 : Int32) from by decide]
    show Steps p.tables e below (T45.setTop (mkF m 31 #[.val (.ref a1), .val (.ref b6), .val (.int (0 : Int32))] [])) _
    refine XS.goto X45.here hx rfl (pc0 := 31) (pc' := 15) rfl (hb hby dfs_31) (by decide) (by decide) ?_
    show Steps p.tables e below (T45.setTop (mkF m 15 #[.val (.ref a1), .val (.ref b6), .val (.int (0 : Int32))] [])) _
    refine XS.iloadN X45.here hx rfl (hb hby dfs_15) rfl ?_
    show Steps p.tables e below (T45.setTop (mkF m 16 #[.val (.ref a1), .val (.ref b6), .val (.int (0 : Int32))] [(.int (0 : Int32))])) _
    refine XS.ifNo X45.here hx rfl (hb hby dfs_16) rfl (XT.i0_lt_f (by decide)) ?_
    show Steps p.tables e below (T45.setTop (mkF m 19 #[.val (.ref a1), .val (.ref b6), .val (.int (0 : Int32))] [])) _
    refine XS.aloadN X45.here hx rfl (hb hby dfs_19) rfl rfl ?_
    show Steps p.tables e below (T45.setTop (mkF m 20 #[.val (.ref a1), .val (.ref b6), .val (.int (0 : Int32))] [(.ref b6)])) _
    refine XS.aloadN X45.here hx rfl (hb hby dfs_20) rfl rfl ?_
    show Steps p.tables e below (T45.setTop (mkF m 21 #[.val (.ref a1), .val (.ref b6), .val (.int (0 : Int32))] [(.ref a1), (.ref b6)])) _
    exact k)
  obtain ⟨T49, X49, e49, st49⟩ := getF X45 hx hZ hown (host := "") (Or.inl (hw _ (List.mem_of_getElem? (i := 18) rfl))) Via.refl e45 f46_0 (g := (mkF m 21 #[.val (.ref a1), .val (.ref b6), .val (.int (0 : Int32))] [(.ref a1), (.ref b6)])) rfl rfl (hb hby dfs_21)
  obtain ⟨cl50, Ar50, kc50, S50, M50, H50, G50⟩ := id f46_2
  have hin50 := inb_of S50 (j := (0 : Int32)) (by decide)
  have hat50 : cl50.slots[((0 : Int32)).toNatClampNeg]? = some (.int c0) := H50.at hin50 rfl
  have pre51 : ∀ t, Steps p.tables e below (T49.setTop (mkF m 27 #[.val (.ref a1), .val (.ref b6), .val (.int (0 : Int32))] [(.int (0 : Int32)), (.int c0), (.ref b6)])) t → Steps p.tables e below (s₁.setTop (entryFrame m #[(.ref a1)] 3)) t := fun t k => pre48 t (by
    show Steps p.tables e below (T45.setTop (mkF m 21 #[.val (.ref a1), .val (.ref b6), .val (.int (0 : Int32))] [(.ref a1), (.ref b6)])) _
    refine st49 _ ?_
    show Steps p.tables e below (T49.setTop (mkF m 24 #[.val (.ref a1), .val (.ref b6), .val (.int (0 : Int32))] [(.ref b1), (.ref b6)])) _
    refine XS.iloadN X49.here hx rfl (hb hby dfs_24) rfl ?_
    show Steps p.tables e below (T49.setTop (mkF m 25 #[.val (.ref a1), .val (.ref b6), .val (.int (0 : Int32))] [(.int (0 : Int32)), (.ref b1), (.ref b6)])) _
    refine X49.iaload hx (j := (0 : Int32)) (v := (.int c0)) (by rw [e49]; exact Ar50.1) (State.isArrayOf_alike hZ.alike Ar50.2.1) Ar50.2.2 hin50 hat50 (g := (mkF m 25 #[.val (.ref a1), .val (.ref b6), .val (.int (0 : Int32))] [(.int (0 : Int32)), (.ref b1), (.ref b6)])) rfl rfl (hb hby dfs_25) _ ?_
    show Steps p.tables e below (T49.setTop (mkF m 26 #[.val (.ref a1), .val (.ref b6), .val (.int (0 : Int32))] [(.int c0), (.ref b6)])) _
    refine XS.iloadN X49.here hx rfl (hb hby dfs_26) rfl ?_
    show Steps p.tables e below (T49.setTop (mkF m 27 #[.val (.ref a1), .val (.ref b6), .val (.int (0 : Int32))] [(.int (0 : Int32)), (.int c0), (.ref b6)])) _
    exact k)
  obtain ⟨cl52, Ar52, kc52, S52, M52, H52, G52⟩ := id V45
  have hin52 := inb_of S52 (j := c0) hi0
  obtain ⟨T52, h52, X52, e52, W52, st52⟩ := stI X49 hx hZ e49 Ar52 (j := c0) hin52 (g := (mkF m 27 #[.val (.ref a1), .val (.ref b6), .val (.int (0 : Int32))] [(.int (0 : Int32)), (.int c0), (.ref b6)])) rfl rfl (hb hby dfs_27)
  have V52 : Arv Z h52 b6 k6 .int n (((((((List.replicate n.toNatClampNeg (.int 0)).set c5.toNatClampNeg (.int 5)).set c4.toNatClampNeg (.int 4)).set c3.toNatClampNeg (.int 3)).set c2.toNatClampNeg (.int 2)).set c1.toNatClampNeg (.int 1)).set c0.toNatClampNeg (.int 0)) (.int 0) := Arv.set Ar52 kc52 S52 M52 H52 G52 (v := (.int (0 : Int32))) rfl W52 c0.toNatClampNeg rfl (by simp only [List.length_set, List.length_replicate]; exact own_nlt hi0)
  have N52 := Fr.snoc X52 N45 g_b6
  have f53_0 := f46_0.other W52 (Or.inl ne_a1_b6)
  have f53_1 := f46_1.other W52 (Or.inl ne_a1_b6)
  have f53_2 := f46_2.other W52 ne_b1_b6
  have K54 := K47.wr W52 (Or.inr sz_b6)
  have Z52 : n0 ≤ h52.size := Nat.le_trans Z45 (Keep.of_wr W52).1
  have pre55 : ∀ t, Steps p.tables e below (T52.setTop (mkF m 35 #[.val (.ref a1), .val (.ref b6), .val (.int (-1 : Int32))] [(.ref b6)])) t → Steps p.tables e below (s₁.setTop (entryFrame m #[(.ref a1)] 3)) t := fun t k => pre51 t (by
    show Steps p.tables e below (T49.setTop (mkF m 27 #[.val (.ref a1), .val (.ref b6), .val (.int (0 : Int32))] [(.int (0 : Int32)), (.int c0), (.ref b6)])) _
    refine st52 _ ?_
    show Steps p.tables e below (T52.setTop (mkF m 28 #[.val (.ref a1), .val (.ref b6), .val (.int (0 : Int32))] [])) _
    refine XT.iincV X52.here hx rfl (-1 : Int32) (hb hby dfs_28) (by decide) rfl (l' := #[.val (.ref a1), .val (.ref b6), .val (.int ((0 : Int32) + (-1 : Int32)))]) rfl ?_
    show Steps p.tables e below (T52.setTop (mkF m 31 #[.val (.ref a1), .val (.ref b6), .val (.int ((0 : Int32) + (-1 : Int32)))] [])) _
    rw [show ((0 : Int32) + (-1 : Int32)) = (-1 : Int32) from by decide]
    show Steps p.tables e below (T52.setTop (mkF m 31 #[.val (.ref a1), .val (.ref b6), .val (.int (-1 : Int32))] [])) _
    refine XS.goto X52.here hx rfl (pc0 := 31) (pc' := 15) rfl (hb hby dfs_31) (by decide) (by decide) ?_
    show Steps p.tables e below (T52.setTop (mkF m 15 #[.val (.ref a1), .val (.ref b6), .val (.int (-1 : Int32))] [])) _
    refine XS.iloadN X52.here hx rfl (hb hby dfs_15) rfl ?_
    show Steps p.tables e below (T52.setTop (mkF m 16 #[.val (.ref a1), .val (.ref b6), .val (.int (-1 : Int32))] [(.int (-1 : Int32))])) _
    refine XS.ifYes X52.here hx rfl (pc0 := 16) (pc' := 34) rfl (hb hby dfs_16) rfl (XT.i0_lt_t (by decide)) (by decide) (by decide) ?_
    show Steps p.tables e below (T52.setTop (mkF m 34 #[.val (.ref a1), .val (.ref b6), .val (.int (-1 : Int32))] [])) _
    refine XS.aloadN X52.here hx rfl (hb hby dfs_34) rfl rfl ?_
    show Steps p.tables e below (T52.setTop (mkF m 35 #[.val (.ref a1), .val (.ref b6), .val (.int (-1 : Int32))] [(.ref b6)])) _
    exact k)
  obtain ⟨fs, hr, hrun, hended, hW, hsame⟩ := X52.leave (v := some (.ref b6)) (fun h => by rw [Bd.returns] at h; cases h)
  refine ⟨_, _, pre55 _ ?_, hrun, hended, _, _, rfl, ?_, ⟨_, rfl⟩, hW, hsame.mono (by decide) (by decide)⟩
  · show Steps p.tables e below (T52.setTop (mkF m 35 #[.val (.ref a1), .val (.ref b6), .val (.int (-1 : Int32))] [(.ref b6)])) _
    jvm_step X52.here [X52.here.top, hx, (hb hby dfs_35), X52.method', Bd.returns, Value.isRef, FieldType.isReference]
    first | (intro acts; rw [hr _ acts rfl rfl rfl]) | rw [hr _ _ rfl rfl rfl]
    exact Steps.refl _
  · show Q_fs Z a1 b1 n c0 c1 c2 c3 c4 c5 k h0 n0 _ T52.heap _
    rw [e52]
    exact ⟨b6, k6, rfl, N52, K54, g_b6, sz_b6, V52⟩
theorem dchk_0 : decode method_4_code 0 = .ok (.iload_n 2, 1) := by decide +kernel
theorem dchk_1 : decode method_4_code 1 = .ok (.aload_n 0, 1) := by decide +kernel
theorem dchk_2 : decode method_4_code 2 = .ok (.arraylength, 1) := by decide +kernel
theorem dchk_3 : decode method_4_code 3 = .ok (.if_icmp .lt 5, 3) := by decide +kernel
theorem dchk_6 : decode method_4_code 6 = .ok (.iconst 1, 1) := by decide +kernel
theorem dchk_7 : decode method_4_code 7 = .ok (.ireturn, 1) := by decide +kernel
theorem dchk_8 : decode method_4_code 8 = .ok (.aload_n 1, 1) := by decide +kernel
theorem dchk_9 : decode method_4_code 9 = .ok (.iload_n 2, 1) := by decide +kernel
theorem dchk_10 : decode method_4_code 10 = .ok (.iaload, 1) := by decide +kernel
theorem dchk_11 : decode method_4_code 11 = .ok (.ifCond .ge 5, 3) := by decide +kernel
theorem dchk_14 : decode method_4_code 14 = .ok (.iconst 1, 1) := by decide +kernel
theorem dchk_15 : decode method_4_code 15 = .ok (.ireturn, 1) := by decide +kernel
theorem dchk_16 : decode method_4_code 16 = .ok (.aload_n 0, 1) := by decide +kernel
theorem dchk_17 : decode method_4_code 17 = .ok (.iload_n 2, 1) := by decide +kernel
theorem dchk_18 : decode method_4_code 18 = .ok (.iaload, 1) := by decide +kernel
theorem dchk_19 : decode method_4_code 19 = .ok (.aload_n 1, 1) := by decide +kernel
theorem dchk_20 : decode method_4_code 20 = .ok (.iload_n 2, 1) := by decide +kernel
theorem dchk_21 : decode method_4_code 21 = .ok (.iaload, 1) := by decide +kernel
theorem dchk_22 : decode method_4_code 22 = .ok (.if_icmp .ne 7, 3) := by decide +kernel
theorem dchk_25 : decode method_4_code 25 = .ok (.iconst 1, 1) := by decide +kernel
theorem dchk_26 : decode method_4_code 26 = .ok (.goto 4, 3) := by decide +kernel
theorem dchk_30 : decode method_4_code 30 = .ok (.ireturn, 1) := by decide +kernel
theorem pn_chk : plainName "com/example/even_odds/evenodds/relation/PartitionFirstStatesPinLaw" = true := by first | (simp [plainName, overriddenIn]; done) | decide +kernel
theorem ef_chk (m : MethodId) (b1 : Addr) (b2 : Addr) (kk : Int32) : entryFrame m #[(.ref b1), (.ref b2), (.int kk)] 3 = (mkF m 0 #[.val (.ref b1), .val (.ref b2), .val (.int kk)] []) := by first | (simp [entryFrame, mkF, argsToLocals, Value.category]; done) | rfl
def Q_chk (Z : State) (b1 b2 : Addr) (kk n rk ek : Int32) (k1 k2 : ClassId) (vr ve : List Value) (h0 : Heap) (n0 : Nat) (v : Option Value) (h : Heap) (L : List Loc) : Prop := v = some (.int 1) ∧ Fr n0 L ∧ h = h0
set_option maxRecDepth 65536 in
set_option maxHeartbeats 40000000 in
theorem rm_chk (l : Launch) (Z : State) (a0 : Array Value) (hw : ∀ d ∈ tables_1, d.before a0 Z = true) (ws : List Jvm.Cond) (b1 b2 : Addr) (kk n rk ek : Int32) (k1 k2 : ClassId) (vr ve : List Value) (h0 : Heap) (n0 : Nat) (Z0 : n0 ≤ h0.size) (V1 : Arv Z h0 b1 k1 .int n vr (.int 0)) (V2 : Arv Z h0 b2 k2 .int 6 ve (.int 0)) (hk : ¬ kk < 0 ∧ kk < 6) (hr : vr.getD kk.toNatClampNeg (.int 0) = .int rk) (he : ve.getD kk.toNatClampNeg (.int 0) = .int ek) (hm : kk < n → ¬ ek < 0 → rk = ek) :
    MetFree l (⟨"com/example/even_odds/evenodds/relation/PartitionFirstStatesPinLaw", "check", "([I[II)Z"⟩ : MethodName) (head1 (Jvm.Cond.code (⟨"com/example/even_odds/evenodds/relation/PartitionFirstStatesPinLaw", "check", "([I[II)Z"⟩ : MethodName) method_4_code 3 (some .boolean) :: ws) ({ frames := 0, cells := 0, slots := 0, locals := 0 } : Room)) (fun a U => a = #[(.ref b1), (.ref b2), (.int kk)] ∧ Z.Warmed39 U.vm ∧ U.heap = h0) (fun _ _ _ _ _ => True) (fun _ U o U' => ∃ v L, o = .returned v ∧ Q_chk Z b1 b2 kk n rk ek k1 k2 vr ve h0 n0 v U'.heap L ∧ FrameEnd U o U' L ({ frames := 0, cells := 0, slots := 0, locals := 0 } : Room).cells ({ frames := 0, cells := 0, slots := 0, locals := 0 } : Room).slots) := by
  refine MetFree.of_bodySF (plainFor_of_name pn_chk) hisR ?_
  intro p e s m args below meth c s₁ Bd hml0 hP hK
  obtain ⟨rfl, hZ, hh⟩ := hP
  have hx := Bd.exec
  have hby := Bd.bytes
  have hml : c.maxLocals = 3 := hml0
  have hown : s.vm.findClass "com/example/even_odds/evenodds/relation/PartitionFirstStatesPinLaw" = some m.cls := findClass_of_methodNamed Bd.named
  have hnm := (name_of_methodNamed Bd.named Bd.method).1
  have X0 : Stand p l e ({ frames := 0, cells := 0, slots := 0, locals := 0 } : Room) s m #[(.ref b1), (.ref b2), (.int kk)] below meth c s₁ [] 0 0 := Stand.of_body Bd
  have e0 : s₁.heap = h0 := by rw [← hh, Bd.state]; rfl
  have N0 := Fr.nil n0
  have pre0 : ∀ t, Steps p.tables e below (s₁.setTop (mkF m 0 #[.val (.ref b1), .val (.ref b2), .val (.int kk)] [])) t → Steps p.tables e below (s₁.setTop (entryFrame m #[(.ref b1), (.ref b2), (.int kk)] 3)) t := fun t k => castTop (ef_chk m b1 b2 kk) k
  obtain ⟨cl2, Ar2, kc2, S2, M2, H2, G2⟩ := id V1
  have pre3 : ∀ t, Steps p.tables e below (s₁.setTop (mkF m 3 #[.val (.ref b1), .val (.ref b2), .val (.int kk)] [(.int n), (.int kk)])) t → Steps p.tables e below (s₁.setTop (entryFrame m #[(.ref b1), (.ref b2), (.int kk)] 3)) t := fun t k => pre0 t (by
    show Steps p.tables e below (s₁.setTop (mkF m 0 #[.val (.ref b1), .val (.ref b2), .val (.int kk)] [])) _
    refine XS.iloadN X0.here hx rfl (hb hby dchk_0) rfl ?_
    show Steps p.tables e below (s₁.setTop (mkF m 1 #[.val (.ref b1), .val (.ref b2), .val (.int kk)] [(.int kk)])) _
    refine XS.aloadN X0.here hx rfl (hb hby dchk_1) rfl rfl ?_
    show Steps p.tables e below (s₁.setTop (mkF m 2 #[.val (.ref b1), .val (.ref b2), .val (.int kk)] [(.ref b1), (.int kk)])) _
    refine X0.arraylength hx (cell := cl2) (by rw [e0]; exact Ar2.1) (State.isArrayOf_alike hZ.alike Ar2.2.1) (g := (mkF m 2 #[.val (.ref b1), .val (.ref b2), .val (.int kk)] [(.ref b1), (.int kk)])) rfl (rest := [(.int kk)]) rfl (hb hby dchk_2) _ ?_
    rw [len_of S2 M2]
    show Steps p.tables e below (s₁.setTop (mkF m 3 #[.val (.ref b1), .val (.ref b2), .val (.int kk)] [(.int n), (.int kk)])) _
    exact k)
  by_cases hc : kk < n
  · skip
    obtain ⟨cl4, Ar4, kc4, S4, M4, H4, G4⟩ := id V2
    have hin4 := inb_of S4 (j := kk) hk
    have hat4 : cl4.slots[(kk).toNatClampNeg]? = some (.int ek) := H4.at hin4 he
    have pre5 : ∀ t, Steps p.tables e below (s₁.setTop (mkF m 11 #[.val (.ref b1), .val (.ref b2), .val (.int kk)] [(.int ek)])) t → Steps p.tables e below (s₁.setTop (entryFrame m #[(.ref b1), (.ref b2), (.int kk)] 3)) t := fun t k => pre3 t (by
      show Steps p.tables e below (s₁.setTop (mkF m 3 #[.val (.ref b1), .val (.ref b2), .val (.int kk)] [(.int n), (.int kk)])) _
      refine XS.icmpYes X0.here hx rfl (pc0 := 3) (pc' := 8) rfl (hb hby dchk_3) rfl (XT.ii_lt_t hc) (by decide) (by decide) ?_
      show Steps p.tables e below (s₁.setTop (mkF m 8 #[.val (.ref b1), .val (.ref b2), .val (.int kk)] [])) _
      refine XS.aloadN X0.here hx rfl (hb hby dchk_8) rfl rfl ?_
      show Steps p.tables e below (s₁.setTop (mkF m 9 #[.val (.ref b1), .val (.ref b2), .val (.int kk)] [(.ref b2)])) _
      refine XS.iloadN X0.here hx rfl (hb hby dchk_9) rfl ?_
      show Steps p.tables e below (s₁.setTop (mkF m 10 #[.val (.ref b1), .val (.ref b2), .val (.int kk)] [(.int kk), (.ref b2)])) _
      refine X0.iaload hx (j := kk) (v := (.int ek)) (by rw [e0]; exact Ar4.1) (State.isArrayOf_alike hZ.alike Ar4.2.1) Ar4.2.2 hin4 hat4 (g := (mkF m 10 #[.val (.ref b1), .val (.ref b2), .val (.int kk)] [(.int kk), (.ref b2)])) rfl rfl (hb hby dchk_10) _ ?_
      show Steps p.tables e below (s₁.setTop (mkF m 11 #[.val (.ref b1), .val (.ref b2), .val (.int kk)] [(.int ek)])) _
      exact k)
    by_cases hd : ek < 0
    · skip
      have pre6 : ∀ t, Steps p.tables e below (s₁.setTop (mkF m 15 #[.val (.ref b1), .val (.ref b2), .val (.int kk)] [(.int (1 : Int32))])) t → Steps p.tables e below (s₁.setTop (entryFrame m #[(.ref b1), (.ref b2), (.int kk)] 3)) t := fun t k => pre5 t (by
        show Steps p.tables e below (s₁.setTop (mkF m 11 #[.val (.ref b1), .val (.ref b2), .val (.int kk)] [(.int ek)])) _
        refine XS.ifNo X0.here hx rfl (hb hby dchk_11) rfl (XT.i0_ge_f hd) ?_
        show Steps p.tables e below (s₁.setTop (mkF m 14 #[.val (.ref b1), .val (.ref b2), .val (.int kk)] [])) _
        refine XS.iconst X0.here hx rfl (hb hby dchk_14) ?_
        show Steps p.tables e below (s₁.setTop (mkF m 15 #[.val (.ref b1), .val (.ref b2), .val (.int kk)] [(.int (1 : Int32))])) _
        exact k)
      obtain ⟨fs, hr, hrun, hended, hW, hsame⟩ := X0.leave (v := some (.int (1 : Int32))) (fun h => by rw [Bd.returns] at h; cases h)
      refine ⟨_, _, pre6 _ ?_, hrun, hended, _, _, rfl, ?_, ⟨_, rfl⟩, hW, hsame.mono (by decide) (by decide)⟩
      · exact retN X0 hx (t := .boolean) Bd.returns (by simp) (hb hby dchk_15) hr
      · show Q_chk Z b1 b2 kk n rk ek k1 k2 vr ve h0 n0 _ s₁.heap _
        rw [e0]
        exact ⟨rfl, N0, rfl⟩
    · skip
      obtain ⟨cl6, Ar6, kc6, S6, M6, H6, G6⟩ := id V1
      have hin6 := inb_of S6 (j := kk) ⟨hk.1, hc⟩
      have hat6 : cl6.slots[(kk).toNatClampNeg]? = some (.int rk) := H6.at hin6 hr
      obtain ⟨cl7, Ar7, kc7, S7, M7, H7, G7⟩ := id V2
      have hin7 := inb_of S7 (j := kk) hk
      have hat7 : cl7.slots[(kk).toNatClampNeg]? = some (.int ek) := H7.at hin7 he
      have pre8 : ∀ t, Steps p.tables e below (s₁.setTop (mkF m 30 #[.val (.ref b1), .val (.ref b2), .val (.int kk)] [(.int (1 : Int32))])) t → Steps p.tables e below (s₁.setTop (entryFrame m #[(.ref b1), (.ref b2), (.int kk)] 3)) t := fun t k => pre5 t (by
        show Steps p.tables e below (s₁.setTop (mkF m 11 #[.val (.ref b1), .val (.ref b2), .val (.int kk)] [(.int ek)])) _
        refine XS.ifYes X0.here hx rfl (pc0 := 11) (pc' := 16) rfl (hb hby dchk_11) rfl (XT.i0_ge_t hd) (by decide) (by decide) ?_
        show Steps p.tables e below (s₁.setTop (mkF m 16 #[.val (.ref b1), .val (.ref b2), .val (.int kk)] [])) _
        refine XS.aloadN X0.here hx rfl (hb hby dchk_16) rfl rfl ?_
        show Steps p.tables e below (s₁.setTop (mkF m 17 #[.val (.ref b1), .val (.ref b2), .val (.int kk)] [(.ref b1)])) _
        refine XS.iloadN X0.here hx rfl (hb hby dchk_17) rfl ?_
        show Steps p.tables e below (s₁.setTop (mkF m 18 #[.val (.ref b1), .val (.ref b2), .val (.int kk)] [(.int kk), (.ref b1)])) _
        refine X0.iaload hx (j := kk) (v := (.int rk)) (by rw [e0]; exact Ar6.1) (State.isArrayOf_alike hZ.alike Ar6.2.1) Ar6.2.2 hin6 hat6 (g := (mkF m 18 #[.val (.ref b1), .val (.ref b2), .val (.int kk)] [(.int kk), (.ref b1)])) rfl rfl (hb hby dchk_18) _ ?_
        show Steps p.tables e below (s₁.setTop (mkF m 19 #[.val (.ref b1), .val (.ref b2), .val (.int kk)] [(.int rk)])) _
        refine XS.aloadN X0.here hx rfl (hb hby dchk_19) rfl rfl ?_
        show Steps p.tables e below (s₁.setTop (mkF m 20 #[.val (.ref b1), .val (.ref b2), .val (.int kk)] [(.ref b2), (.int rk)])) _
        refine XS.iloadN X0.here hx rfl (hb hby dchk_20) rfl ?_
        show Steps p.tables e below (s₁.setTop (mkF m 21 #[.val (.ref b1), .val (.ref b2), .val (.int kk)] [(.int kk), (.ref b2), (.int rk)])) _
        refine X0.iaload hx (j := kk) (v := (.int ek)) (by rw [e0]; exact Ar7.1) (State.isArrayOf_alike hZ.alike Ar7.2.1) Ar7.2.2 hin7 hat7 (g := (mkF m 21 #[.val (.ref b1), .val (.ref b2), .val (.int kk)] [(.int kk), (.ref b2), (.int rk)])) rfl rfl (hb hby dchk_21) _ ?_
        show Steps p.tables e below (s₁.setTop (mkF m 22 #[.val (.ref b1), .val (.ref b2), .val (.int kk)] [(.int ek), (.int rk)])) _
        refine XS.icmpNo X0.here hx rfl (hb hby dchk_22) rfl (XT.ii_ne_f (hm hc hd)) ?_
        show Steps p.tables e below (s₁.setTop (mkF m 25 #[.val (.ref b1), .val (.ref b2), .val (.int kk)] [])) _
        refine XS.iconst X0.here hx rfl (hb hby dchk_25) ?_
        show Steps p.tables e below (s₁.setTop (mkF m 26 #[.val (.ref b1), .val (.ref b2), .val (.int kk)] [(.int (1 : Int32))])) _
        refine XS.goto X0.here hx rfl (pc0 := 26) (pc' := 30) rfl (hb hby dchk_26) (by decide) (by decide) ?_
        show Steps p.tables e below (s₁.setTop (mkF m 30 #[.val (.ref b1), .val (.ref b2), .val (.int kk)] [(.int (1 : Int32))])) _
        exact k)
      obtain ⟨fs, hr, hrun, hended, hW, hsame⟩ := X0.leave (v := some (.int (1 : Int32))) (fun h => by rw [Bd.returns] at h; cases h)
      refine ⟨_, _, pre8 _ ?_, hrun, hended, _, _, rfl, ?_, ⟨_, rfl⟩, hW, hsame.mono (by decide) (by decide)⟩
      · exact retN X0 hx (t := .boolean) Bd.returns (by simp) (hb hby dchk_30) hr
      · show Q_chk Z b1 b2 kk n rk ek k1 k2 vr ve h0 n0 _ s₁.heap _
        rw [e0]
        exact ⟨rfl, N0, rfl⟩
  · skip
    have pre4 : ∀ t, Steps p.tables e below (s₁.setTop (mkF m 7 #[.val (.ref b1), .val (.ref b2), .val (.int kk)] [(.int (1 : Int32))])) t → Steps p.tables e below (s₁.setTop (entryFrame m #[(.ref b1), (.ref b2), (.int kk)] 3)) t := fun t k => pre3 t (by
      show Steps p.tables e below (s₁.setTop (mkF m 3 #[.val (.ref b1), .val (.ref b2), .val (.int kk)] [(.int n), (.int kk)])) _
      refine XS.icmpNo X0.here hx rfl (hb hby dchk_3) rfl (XT.ii_lt_f hc) ?_
      show Steps p.tables e below (s₁.setTop (mkF m 6 #[.val (.ref b1), .val (.ref b2), .val (.int kk)] [])) _
      refine XS.iconst X0.here hx rfl (hb hby dchk_6) ?_
      show Steps p.tables e below (s₁.setTop (mkF m 7 #[.val (.ref b1), .val (.ref b2), .val (.int kk)] [(.int (1 : Int32))])) _
      exact k)
    obtain ⟨fs, hr, hrun, hended, hW, hsame⟩ := X0.leave (v := some (.int (1 : Int32))) (fun h => by rw [Bd.returns] at h; cases h)
    refine ⟨_, _, pre4 _ ?_, hrun, hended, _, _, rfl, ?_, ⟨_, rfl⟩, hW, hsame.mono (by decide) (by decide)⟩
    · exact retN X0 hx (t := .boolean) Bd.returns (by simp) (hb hby dchk_7) hr
    · show Q_chk Z b1 b2 kk n rk ek k1 k2 vr ve h0 n0 _ s₁.heap _
      rw [e0]
      exact ⟨rfl, N0, rfl⟩
theorem own_b6 (p : Int32) : ¬ ((p &&& (15 : Int32)) % (6 : Int32)) < 0 ∧ ((p &&& (15 : Int32)) % (6 : Int32)) < 6 := by
  have h1 := c_mask p 15 4 (by decide) (by decide)
  have h2 := (c_irem (p &&& 15) 6 6 (by decide)).1
  rw [Int32.lt_iff_toInt_lt, Int32.lt_iff_toInt_lt]
  have h3 : (0 : Int32).toInt = 0 := by decide
  have h4 : (6 : Int32).toInt = 6 := by decide
  rw [h3, h4]
  have h5 : 0 ≤ (p &&& 15).toInt := by rw [h1]; omega
  have h6 := h2 h5
  omega
theorem own_maxS (x y : Int32) : x.toInt ≤ (own_max x y).toInt ∧ y.toInt ≤ (own_max x y).toInt ∧ ((own_max x y).toInt = x.toInt ∨ (own_max x y).toInt = y.toInt) := by
  unfold own_max
  split
  · rename_i h; rw [Int32.lt_iff_toInt_lt] at h; exact ⟨by omega, by omega, Or.inr rfl⟩
  · rename_i h; rw [Int32.lt_iff_toInt_lt] at h; exact ⟨by omega, by omega, Or.inl rfl⟩
theorem own_cnt {c0 c1 c2 c3 c4 c5 m : Int32} (hm : m = own_max (own_max (own_max c0 c1) (own_max c2 c3)) (own_max c4 c5)) (h0 : ¬ c0 < 0 ∧ c0 < 6) (h1 : ¬ c1 < 0 ∧ c1 < 6) (h2 : ¬ c2 < 0 ∧ c2 < 6) (h3 : ¬ c3 < 0 ∧ c3 < 6) (h4 : ¬ c4 < 0 ∧ c4 < 6) (h5 : ¬ c5 < 0 ∧ c5 < 6) :
    ¬ (m + 1) < 0 ∧ (m + 1).toNatClampNeg ≤ 6 ∧ (¬ c0 < 0 ∧ c0 < m + 1) ∧ (¬ c1 < 0 ∧ c1 < m + 1) ∧ (¬ c2 < 0 ∧ c2 < m + 1) ∧ (¬ c3 < 0 ∧ c3 < m + 1) ∧ (¬ c4 < 0 ∧ c4 < m + 1) ∧ (¬ c5 < 0 ∧ c5 < m + 1) := by
  have q1 := own_maxS c0 c1; have q2 := own_maxS c2 c3; have q3 := own_maxS c4 c5
  have q4 := own_maxS (own_max c0 c1) (own_max c2 c3); have q5 := own_maxS (own_max (own_max c0 c1) (own_max c2 c3)) (own_max c4 c5)
  rw [← hm] at q5
  have z0 : (0 : Int32).toInt = 0 := by decide
  have z1 : (1 : Int32).toInt = 1 := by decide
  have z6 : (6 : Int32).toInt = 6 := by decide
  have r1 := c_iadd m 1
  have r2 := rng32 (m + 1)
  show _ ∧ (m + 1).toInt.toNat ≤ 6 ∧ _
  simp only [Int32.lt_iff_toInt_lt, z0, z1, z6] at *
  omega
theorem own_eqN {c k : Int32} (h : ¬ c < 0) (hk : ¬ k < 0) : c.toNatClampNeg = k.toNatClampNeg ↔ c = k := by
  have z0 : (0 : Int32).toInt = 0 := by decide
  rw [Int32.lt_iff_toInt_lt, z0] at h hk
  rw [← Int32.toInt_inj]
  show c.toInt.toNat = k.toInt.toNat ↔ _
  omega
theorem own_rget {n : Nat} {c0 c1 c2 c3 c4 c5 k : Int32} (h0 : ¬ c0 < 0) (h1 : ¬ c1 < 0) (h2 : ¬ c2 < 0) (h3 : ¬ c3 < 0) (h4 : ¬ c4 < 0) (h5 : ¬ c5 < 0) (hk : ¬ k < 0) :
    ∃ r : Int32, (own_r n c0 c1 c2 c3 c4 c5).getD k.toNatClampNeg (.int 0) = .int r ∧ (k.toNatClampNeg < n → ¬ own_first c0 c1 c2 c3 c4 c5 k < 0 → r = own_first c0 c1 c2 c3 c4 c5 k) := by
  have e0 := own_eqN h0 hk; have e1 := own_eqN h1 hk; have e2 := own_eqN h2 hk; have e3 := own_eqN h3 hk; have e4 := own_eqN h4 hk; have e5 := own_eqN h5 hk
  unfold own_r own_first
  simp only [List.getD_eq_getElem?_getD, List.getElem?_set, List.length_set, List.length_replicate, e0, e1, e2, e3, e4, e5, List.getElem?_replicate]
  by_cases q : k.toNatClampNeg < n
  · by_cases p0 : c0 = k
    · subst p0; exact ⟨0, by simp [q], by simp⟩
    · by_cases p1 : c1 = k
      · subst p1; exact ⟨1, by simp [q, p0], by simp [p0]⟩
      · by_cases p2 : c2 = k
        · subst p2; exact ⟨2, by simp [q, p0, p1], by simp [p0, p1]⟩
        · by_cases p3 : c3 = k
          · subst p3; exact ⟨3, by simp [q, p0, p1, p2], by simp [p0, p1, p2]⟩
          · by_cases p4 : c4 = k
            · subst p4; exact ⟨4, by simp [q, p0, p1, p2, p3], by simp [p0, p1, p2, p3]⟩
            · by_cases p5 : c5 = k
              · subst p5; exact ⟨5, by simp [q, p0, p1, p2, p3, p4], by simp [p0, p1, p2, p3, p4]⟩
              · exact ⟨0, by simp [q, p0, p1, p2, p3, p4, p5], by simp [p0, p1, p2, p3, p4, p5]⟩
  · refine ⟨0, ?_, fun h => absurd h q⟩
    by_cases p0 : c0 = k
    · subst p0; simp [q]
    · by_cases p1 : c1 = k
      · subst p1; simp [q, p0]
      · by_cases p2 : c2 = k
        · subst p2; simp [q, p0, p1]
        · by_cases p3 : c3 = k
          · subst p3; simp [q, p0, p1, p2]
          · by_cases p4 : c4 = k
            · subst p4; simp [q, p0, p1, p2, p3]
            · by_cases p5 : c5 = k
              · subst p5; simp [q, p0, p1, p2, p3, p4]
              · simp [q, p0, p1, p2, p3, p4, p5]
theorem pd__II_I : parseMethodDescriptor "(II)I" = some ⟨[.int, .int], some .int⟩ := by decide +kernel
theorem pd___II_I : parseMethodDescriptor "([II)I" = some ⟨[(.array .int), .int], some .int⟩ := by decide +kernel
theorem pd___II_V : parseMethodDescriptor "([II)V" = some ⟨[(.array .int), .int], none⟩ := by decide +kernel
theorem pd____I : parseMethodDescriptor "()[I" = some ⟨[], some (.array .int)⟩ := by decide +kernel
theorem pd___I_II_Z : parseMethodDescriptor "([I[II)Z" = some ⟨[(.array .int), (.array .int), .int], some .boolean⟩ := by decide +kernel
theorem pn_0 : plainName "com/example/even_odds/evenodds/relation/PartitionFirstStatesPinLaw" = true := by first | (simp [plainName, overriddenIn]; done) | decide +kernel
theorem ef_0 (m : MethodId) (p1 : Int32) : entryFrame m #[(.int p1)] maxLocals = (mkF m 0 #[.val (.int p1), .unset, .unset, .unset, .unset, .unset, .unset, .unset] []) := by first | (simp [entryFrame, mkF, argsToLocals, Value.category, maxLocals]; done) | rfl
def Q_0 (Z : State) (p1 : Int32) (h0 : Heap) (n0 : Nat) (v : Option Value) (h : Heap) (L : List Loc) : Prop := v = some (.int 1) ∧ Fr n0 L
set_option maxRecDepth 65536 in
set_option maxHeartbeats 40000000 in
theorem rs_0_8 (l : Launch) (Z : State) (a0 : Array Value) (hw : ∀ d ∈ tables_1, d.before a0 Z = true) (ws : List Jvm.Cond) (p1 : Int32) (h0 : Heap) (n0 : Nat) (c0 : Int32) (c1 : Int32) (c2 : Int32) (c3 : Int32) (c4 : Int32) (c5 : Int32) (mx4 : Int32) (f0 : Int32) (f1 : Int32) (f2 : Int32) (f3 : Int32) (f4 : Int32) (f5 : Int32) (b3 : Addr) (k3 : ClassId) (b43 : Addr) (k43 : ClassId) (br : Addr) (kr : ClassId) (b79 : Addr) {p e s m below meth c s₁} (Bd : BodyLoose p l x (head1 (Jvm.Cond.code x code maxLocals ret :: ws) room_1) code maxLocals ret e s m #[(.int p1)] below meth c s₁) (hZ : Z.Warmed39 s.vm) (hml : c.maxLocals = 8) {Tc Lc0} (hhc : Heap) (Xc : Stand p l e room_1 s m #[(.int p1)] below meth c Tc Lc0 4 20) (ec : Tc.heap = hhc) (Nc : Fr n0 Lc0) (Zc : n0 ≤ hhc.size) (prec : ∀ t, Steps p.tables e below (Tc.setTop (mkF m 290 #[.val (.int p1), .val (.ref b3), .val (.int mx4), .val (.int (mx4 + (1 : Int32))), .val (.ref b43), .val (.ref b79), .val (.ref br), .val (.int (1 : Int32))] [(.int (1 : Int32))])) t → Steps p.tables e below (s₁.setTop (entryFrame m #[(.int p1)] maxLocals)) t) (fc8_0 : Arv Z hhc b3 k3 .int (6 : Int32) [(.int c0), (.int c1), (.int c2), (.int c3), (.int c4), (.int c5)] (.int (0 : Int32))) (fc8_1 : Arv Z hhc b43 k43 .int (6 : Int32) [(.int f0), (.int f1), (.int f2), (.int f3), (.int f4), (.int f5)] (.int (0 : Int32))) (fc8_2 : Arv Z hhc br kr .int (mx4 + (1 : Int32)) (own_r (mx4 + 1).toNatClampNeg c0 c1 c2 c3 c4 c5) (.int 0)) (ne_b3_b43 : b3 ≠ b43) (ne_b3_b79 : b3 ≠ b79) (ne_b43_b79 : b43 ≠ b79) (g_b3 : n0 ≤ b3) (g_b43 : n0 ≤ b43) (g_b79 : n0 ≤ b79) (hn0 : ¬ (mx4 + 1) < 0) (hn6 : (mx4 + 1).toNatClampNeg ≤ 6) (hi0 : ¬ c0 < 0 ∧ c0 < mx4 + 1) (hi1 : ¬ c1 < 0 ∧ c1 < mx4 + 1) (hi2 : ¬ c2 < 0 ∧ c2 < mx4 + 1) (hi3 : ¬ c3 < 0 ∧ c3 < mx4 + 1) (hi4 : ¬ c4 < 0 ∧ c4 < mx4 + 1) (hi5 : ¬ c5 < 0 ∧ c5 < mx4 + 1) (hf0 : own_first c0 c1 c2 c3 c4 c5 0 = f0) (hf1 : own_first c0 c1 c2 c3 c4 c5 1 = f1) (hf2 : own_first c0 c1 c2 c3 c4 c5 2 = f2) (hf3 : own_first c0 c1 c2 c3 c4 c5 3 = f3) (hf4 : own_first c0 c1 c2 c3 c4 c5 4 = f4) (hf5 : own_first c0 c1 c2 c3 c4 c5 5 = f5) :
    ∃ s₂ o, Steps p.tables e below (s₁.setTop (entryFrame m #[(.int p1)] maxLocals)) s₂ ∧ s₂.status = .running ∧ Ended s₂ below o ∧ ∃ v L, o = .returned v ∧ Q_0 Z p1 h0 n0 v s₂.heap L ∧ FrameEnd s o s₂ L room_1.cells room_1.slots := by
  have hx := Bd.exec
  have hby := Bd.bytes
  have hown : s.vm.findClass "com/example/even_odds/evenodds/relation/PartitionFirstStatesPinLaw" = some m.cls := findClass_of_methodNamed Bd.named
  have hnm := (name_of_methodNamed Bd.named Bd.method).1
  obtain ⟨r4, hr4, hq4⟩ := own_rget (n := (mx4 + 1).toNatClampNeg) (k := 4) hi0.1 hi1.1 hi2.1 hi3.1 hi4.1 hi5.1 (by decide)
  rw [hf4] at hq4
  have pre98 : ∀ t, Steps p.tables e below (Tc.setTop (mkF m 298 #[.val (.int p1), .val (.ref b3), .val (.int mx4), .val (.int (mx4 + (1 : Int32))), .val (.ref b43), .val (.ref b79), .val (.ref br), .val (.int (1 : Int32))] [(.int (4 : Int32)), (.ref b43), (.ref br)])) t → Steps p.tables e below (s₁.setTop (entryFrame m #[(.int p1)] maxLocals)) t := fun t k => prec t (by
    show Steps p.tables e below (Tc.setTop (mkF m 290 #[.val (.int p1), .val (.ref b3), .val (.int mx4), .val (.int (mx4 + (1 : Int32))), .val (.ref b43), .val (.ref b79), .val (.ref br), .val (.int (1 : Int32))] [(.int (1 : Int32))])) _
    refine XS.ifNo Xc.here hx rfl (hb hby at_290) rfl (XT.i0_eq_f (by decide)) ?_
    show Steps p.tables e below (Tc.setTop (mkF m 293 #[.val (.int p1), .val (.ref b3), .val (.int mx4), .val (.int (mx4 + (1 : Int32))), .val (.ref b43), .val (.ref b79), .val (.ref br), .val (.int (1 : Int32))] [])) _
    refine XS.aload Xc.here hx rfl (hb hby at_293) rfl rfl ?_
    show Steps p.tables e below (Tc.setTop (mkF m 295 #[.val (.int p1), .val (.ref b3), .val (.int mx4), .val (.int (mx4 + (1 : Int32))), .val (.ref b43), .val (.ref b79), .val (.ref br), .val (.int (1 : Int32))] [(.ref br)])) _
    refine XS.aload Xc.here hx rfl (hb hby at_295) rfl rfl ?_
    show Steps p.tables e below (Tc.setTop (mkF m 297 #[.val (.int p1), .val (.ref b3), .val (.int mx4), .val (.int (mx4 + (1 : Int32))), .val (.ref b43), .val (.ref b79), .val (.ref br), .val (.int (1 : Int32))] [(.ref b43), (.ref br)])) _
    refine XS.iconst Xc.here hx rfl (hb hby at_297) ?_
    show Steps p.tables e below (Tc.setTop (mkF m 298 #[.val (.int p1), .val (.ref b3), .val (.int mx4), .val (.int (mx4 + (1 : Int32))), .val (.ref b43), .val (.ref b79), .val (.ref br), .val (.int (1 : Int32))] [(.int (4 : Int32)), (.ref b43), (.ref br)])) _
    exact k)
  obtain ⟨_, _, ⟨T99, L99, kk99, nn99⟩, -, X99, ⟨Lc99, hQ99, l99, y99, z99⟩, st99⟩ := Jvm.LawKit.callS Xc hx (y := (⟨"com/example/even_odds/evenodds/relation/PartitionFirstStatesPinLaw", "check", "([I[II)Z"⟩ : MethodName)) hown (mvT hZ (hw _ (List.mem_of_getElem? (i := 27) rfl))) (mvT hZ (hw _ (List.mem_of_getElem? (i := 28) rfl))) (mvT hZ (hw _ (List.mem_of_getElem? (i := 7) rfl))) (mvT hZ (hw _ (List.mem_of_getElem? (i := 29) rfl))) (by decide) (backOf (W := 0) (rm_chk l Z a0 hw [] br b43 4 (mx4 + (1 : Int32)) r4 f4 kr k43 _ _ hhc n0 Zc fc8_2 fc8_1 (by decide) hr4 rfl (fun h1 h2 => hq4 (own_nlt ⟨by decide, h1⟩) h2)) hZ (hw _ (List.mem_of_getElem? (i := 29) rfl)) (hw _ (List.mem_of_getElem? (i := 7) rfl)) (by decide) (by decide)) (g := (mkF m 298 #[.val (.int p1), .val (.ref b3), .val (.int mx4), .val (.int (mx4 + (1 : Int32))), .val (.ref b43), .val (.ref b79), .val (.ref br), .val (.int (1 : Int32))] [(.int (4 : Int32)), (.ref b43), (.ref br)])) rfl (by rw [hml]; rfl) (argsL := [(.ref br), (.ref b43), (.int (4 : Int32))]) (rest := []) (lenOf pd___I_II_Z rfl) rfl (by show 2 * 0 + _ ≤ _; exact Nat.le_of_eq rfl) (hb hby at_298) (fun _ _ => ⟨rfl, ec, (by decide : 4 + 0 ≤ _), (by decide : 20 + 0 ≤ _)⟩)
  dsimp only [Pt.U, Pt.locs, Pt.cells, Pt.slots] at X99 l99 y99 z99 st99 hQ99
  subst l99 y99 z99
  obtain ⟨rfl, N99q, eq99⟩ := hQ99
  have N99 := Fr.app Nc N99q
  clear N99q
  obtain ⟨r5, hr5, hq5⟩ := own_rget (n := (mx4 + 1).toNatClampNeg) (k := 5) hi0.1 hi1.1 hi2.1 hi3.1 hi4.1 hi5.1 (by decide)
  rw [hf5] at hq5
  have pre100 : ∀ t, Steps p.tables e below (T99.setTop (mkF m 321 #[.val (.int p1), .val (.ref b3), .val (.int mx4), .val (.int (mx4 + (1 : Int32))), .val (.ref b43), .val (.ref b79), .val (.ref br), .val (.int (1 : Int32))] [(.int (5 : Int32)), (.ref b43), (.ref br)])) t → Steps p.tables e below (s₁.setTop (entryFrame m #[(.int p1)] maxLocals)) t := fun t k => pre98 t (by
    show Steps p.tables e below (Tc.setTop (mkF m 298 #[.val (.int p1), .val (.ref b3), .val (.int mx4), .val (.int (mx4 + (1 : Int32))), .val (.ref b43), .val (.ref b79), .val (.ref br), .val (.int (1 : Int32))] [(.int (4 : Int32)), (.ref b43), (.ref br)])) _
    refine st99 _ ?_
    show Steps p.tables e below (T99.setTop (mkF m 301 #[.val (.int p1), .val (.ref b3), .val (.int mx4), .val (.int (mx4 + (1 : Int32))), .val (.ref b43), .val (.ref b79), .val (.ref br), .val (.int (1 : Int32))] [(.int (1 : Int32))])) _
    refine XS.ifNo X99.here hx rfl (hb hby at_301) rfl (XT.i0_eq_f (by decide)) ?_
    show Steps p.tables e below (T99.setTop (mkF m 304 #[.val (.int p1), .val (.ref b3), .val (.int mx4), .val (.int (mx4 + (1 : Int32))), .val (.ref b43), .val (.ref b79), .val (.ref br), .val (.int (1 : Int32))] [])) _
    refine XS.iconst X99.here hx rfl (hb hby at_304) ?_
    show Steps p.tables e below (T99.setTop (mkF m 305 #[.val (.int p1), .val (.ref b3), .val (.int mx4), .val (.int (mx4 + (1 : Int32))), .val (.ref b43), .val (.ref b79), .val (.ref br), .val (.int (1 : Int32))] [(.int (1 : Int32))])) _
    refine XS.goto X99.here hx rfl (pc0 := 305) (pc' := 309) rfl (hb hby at_305) (by decide) (by decide) ?_
    show Steps p.tables e below (T99.setTop (mkF m 309 #[.val (.int p1), .val (.ref b3), .val (.int mx4), .val (.int (mx4 + (1 : Int32))), .val (.ref b43), .val (.ref b79), .val (.ref br), .val (.int (1 : Int32))] [(.int (1 : Int32))])) _
    refine XS.istore X99.here hx rfl (hb hby at_309) rfl (l' := #[.val (.int p1), .val (.ref b3), .val (.int mx4), .val (.int (mx4 + (1 : Int32))), .val (.ref b43), .val (.ref b79), .val (.ref br), .val (.int (1 : Int32))]) rfl ?_
    show Steps p.tables e below (T99.setTop (mkF m 311 #[.val (.int p1), .val (.ref b3), .val (.int mx4), .val (.int (mx4 + (1 : Int32))), .val (.ref b43), .val (.ref b79), .val (.ref br), .val (.int (1 : Int32))] [])) _
    refine XS.iload X99.here hx rfl (hb hby at_311) rfl ?_
    show Steps p.tables e below (T99.setTop (mkF m 313 #[.val (.int p1), .val (.ref b3), .val (.int mx4), .val (.int (mx4 + (1 : Int32))), .val (.ref b43), .val (.ref b79), .val (.ref br), .val (.int (1 : Int32))] [(.int (1 : Int32))])) _
    refine XS.ifNo X99.here hx rfl (hb hby at_313) rfl (XT.i0_eq_f (by decide)) ?_
    show Steps p.tables e below (T99.setTop (mkF m 316 #[.val (.int p1), .val (.ref b3), .val (.int mx4), .val (.int (mx4 + (1 : Int32))), .val (.ref b43), .val (.ref b79), .val (.ref br), .val (.int (1 : Int32))] [])) _
    refine XS.aload X99.here hx rfl (hb hby at_316) rfl rfl ?_
    show Steps p.tables e below (T99.setTop (mkF m 318 #[.val (.int p1), .val (.ref b3), .val (.int mx4), .val (.int (mx4 + (1 : Int32))), .val (.ref b43), .val (.ref b79), .val (.ref br), .val (.int (1 : Int32))] [(.ref br)])) _
    refine XS.aload X99.here hx rfl (hb hby at_318) rfl rfl ?_
    show Steps p.tables e below (T99.setTop (mkF m 320 #[.val (.int p1), .val (.ref b3), .val (.int mx4), .val (.int (mx4 + (1 : Int32))), .val (.ref b43), .val (.ref b79), .val (.ref br), .val (.int (1 : Int32))] [(.ref b43), (.ref br)])) _
    refine XS.iconst X99.here hx rfl (hb hby at_320) ?_
    show Steps p.tables e below (T99.setTop (mkF m 321 #[.val (.int p1), .val (.ref b3), .val (.int mx4), .val (.int (mx4 + (1 : Int32))), .val (.ref b43), .val (.ref b79), .val (.ref br), .val (.int (1 : Int32))] [(.int (5 : Int32)), (.ref b43), (.ref br)])) _
    exact k)
  obtain ⟨_, _, ⟨T101, L101, kk101, nn101⟩, -, X101, ⟨Lc101, hQ101, l101, y101, z101⟩, st101⟩ := Jvm.LawKit.callS X99 hx (y := (⟨"com/example/even_odds/evenodds/relation/PartitionFirstStatesPinLaw", "check", "([I[II)Z"⟩ : MethodName)) hown (mvT hZ (hw _ (List.mem_of_getElem? (i := 27) rfl))) (mvT hZ (hw _ (List.mem_of_getElem? (i := 28) rfl))) (mvT hZ (hw _ (List.mem_of_getElem? (i := 7) rfl))) (mvT hZ (hw _ (List.mem_of_getElem? (i := 29) rfl))) (by decide) (backOf (W := 0) (rm_chk l Z a0 hw [] br b43 5 (mx4 + (1 : Int32)) r5 f5 kr k43 _ _ hhc n0 Zc fc8_2 fc8_1 (by decide) hr5 rfl (fun h1 h2 => hq5 (own_nlt ⟨by decide, h1⟩) h2)) hZ (hw _ (List.mem_of_getElem? (i := 29) rfl)) (hw _ (List.mem_of_getElem? (i := 7) rfl)) (by decide) (by decide)) (g := (mkF m 321 #[.val (.int p1), .val (.ref b3), .val (.int mx4), .val (.int (mx4 + (1 : Int32))), .val (.ref b43), .val (.ref b79), .val (.ref br), .val (.int (1 : Int32))] [(.int (5 : Int32)), (.ref b43), (.ref br)])) rfl (by rw [hml]; rfl) (argsL := [(.ref br), (.ref b43), (.int (5 : Int32))]) (rest := []) (lenOf pd___I_II_Z rfl) rfl (by show 2 * 0 + _ ≤ _; exact Nat.le_of_eq rfl) (hb hby at_321) (fun _ _ => ⟨rfl, eq99, (by decide : 4 + 0 ≤ _), (by decide : 20 + 0 ≤ _)⟩)
  dsimp only [Pt.U, Pt.locs, Pt.cells, Pt.slots] at X101 l101 y101 z101 st101 hQ101
  subst l101 y101 z101
  obtain ⟨rfl, N101q, eq101⟩ := hQ101
  have N101 := Fr.app N99 N101q
  clear pre98 X99 st99 eq99 N99 N101q
  have pre102 : ∀ t, Steps p.tables e below (T101.setTop (mkF m 336 #[.val (.int p1), .val (.ref b3), .val (.int mx4), .val (.int (mx4 + (1 : Int32))), .val (.ref b43), .val (.ref b79), .val (.ref br), .val (.int (1 : Int32))] [(.int (1 : Int32))])) t → Steps p.tables e below (s₁.setTop (entryFrame m #[(.int p1)] maxLocals)) t := fun t k => pre100 t (by
    show Steps p.tables e below (T99.setTop (mkF m 321 #[.val (.int p1), .val (.ref b3), .val (.int mx4), .val (.int (mx4 + (1 : Int32))), .val (.ref b43), .val (.ref b79), .val (.ref br), .val (.int (1 : Int32))] [(.int (5 : Int32)), (.ref b43), (.ref br)])) _
    refine st101 _ ?_
    show Steps p.tables e below (T101.setTop (mkF m 324 #[.val (.int p1), .val (.ref b3), .val (.int mx4), .val (.int (mx4 + (1 : Int32))), .val (.ref b43), .val (.ref b79), .val (.ref br), .val (.int (1 : Int32))] [(.int (1 : Int32))])) _
    refine XS.ifNo X101.here hx rfl (hb hby at_324) rfl (XT.i0_eq_f (by decide)) ?_
    show Steps p.tables e below (T101.setTop (mkF m 327 #[.val (.int p1), .val (.ref b3), .val (.int mx4), .val (.int (mx4 + (1 : Int32))), .val (.ref b43), .val (.ref b79), .val (.ref br), .val (.int (1 : Int32))] [])) _
    refine XS.iconst X101.here hx rfl (hb hby at_327) ?_
    show Steps p.tables e below (T101.setTop (mkF m 328 #[.val (.int p1), .val (.ref b3), .val (.int mx4), .val (.int (mx4 + (1 : Int32))), .val (.ref b43), .val (.ref b79), .val (.ref br), .val (.int (1 : Int32))] [(.int (1 : Int32))])) _
    refine XS.goto X101.here hx rfl (pc0 := 328) (pc' := 332) rfl (hb hby at_328) (by decide) (by decide) ?_
    show Steps p.tables e below (T101.setTop (mkF m 332 #[.val (.int p1), .val (.ref b3), .val (.int mx4), .val (.int (mx4 + (1 : Int32))), .val (.ref b43), .val (.ref b79), .val (.ref br), .val (.int (1 : Int32))] [(.int (1 : Int32))])) _
    refine XS.istore X101.here hx rfl (hb hby at_332) rfl (l' := #[.val (.int p1), .val (.ref b3), .val (.int mx4), .val (.int (mx4 + (1 : Int32))), .val (.ref b43), .val (.ref b79), .val (.ref br), .val (.int (1 : Int32))]) rfl ?_
    show Steps p.tables e below (T101.setTop (mkF m 334 #[.val (.int p1), .val (.ref b3), .val (.int mx4), .val (.int (mx4 + (1 : Int32))), .val (.ref b43), .val (.ref b79), .val (.ref br), .val (.int (1 : Int32))] [])) _
    refine XS.iload X101.here hx rfl (hb hby at_334) rfl ?_
    show Steps p.tables e below (T101.setTop (mkF m 336 #[.val (.int p1), .val (.ref b3), .val (.int mx4), .val (.int (mx4 + (1 : Int32))), .val (.ref b43), .val (.ref b79), .val (.ref br), .val (.int (1 : Int32))] [(.int (1 : Int32))])) _
    exact k)
  obtain ⟨fs, hr, hrun, hended, hW, hsame⟩ := X101.leave (v := some (.int (1 : Int32))) (fun h => by rw [Bd.returns] at h; cases h)
  refine ⟨_, _, pre102 _ ?_, hrun, hended, _, _, rfl, ?_, ⟨_, rfl⟩, hW, hsame.mono (by decide) (by decide)⟩
  · exact retN X101 hx (t := .boolean) Bd.returns (by simp) (hb hby at_336) hr
  · show Q_0 Z p1 h0 n0 _ T101.heap _
    rw [eq101]
    exact ⟨rfl, N101⟩
set_option maxRecDepth 65536 in
set_option maxHeartbeats 40000000 in
theorem rs_0_7 (l : Launch) (Z : State) (a0 : Array Value) (hw : ∀ d ∈ tables_1, d.before a0 Z = true) (ws : List Jvm.Cond) (p1 : Int32) (h0 : Heap) (n0 : Nat) (c0 : Int32) (c1 : Int32) (c2 : Int32) (c3 : Int32) (c4 : Int32) (c5 : Int32) (mx4 : Int32) (f0 : Int32) (f1 : Int32) (f2 : Int32) (f3 : Int32) (f4 : Int32) (f5 : Int32) (b3 : Addr) (k3 : ClassId) (b43 : Addr) (k43 : ClassId) (br : Addr) (kr : ClassId) (b79 : Addr) {p e s m below meth c s₁} (Bd : BodyLoose p l x (head1 (Jvm.Cond.code x code maxLocals ret :: ws) room_1) code maxLocals ret e s m #[(.int p1)] below meth c s₁) (hZ : Z.Warmed39 s.vm) (hml : c.maxLocals = 8) {Tc Lc0} (hhc : Heap) (Xc : Stand p l e room_1 s m #[(.int p1)] below meth c Tc Lc0 4 20) (ec : Tc.heap = hhc) (Nc : Fr n0 Lc0) (Zc : n0 ≤ hhc.size) (prec : ∀ t, Steps p.tables e below (Tc.setTop (mkF m 244 #[.val (.int p1), .val (.ref b3), .val (.int mx4), .val (.int (mx4 + (1 : Int32))), .val (.ref b43), .val (.ref b79), .val (.ref br), .val (.int (1 : Int32))] [(.int (1 : Int32))])) t → Steps p.tables e below (s₁.setTop (entryFrame m #[(.int p1)] maxLocals)) t) (fc7_0 : Arv Z hhc b3 k3 .int (6 : Int32) [(.int c0), (.int c1), (.int c2), (.int c3), (.int c4), (.int c5)] (.int (0 : Int32))) (fc7_1 : Arv Z hhc b43 k43 .int (6 : Int32) [(.int f0), (.int f1), (.int f2), (.int f3), (.int f4), (.int f5)] (.int (0 : Int32))) (fc7_2 : Arv Z hhc br kr .int (mx4 + (1 : Int32)) (own_r (mx4 + 1).toNatClampNeg c0 c1 c2 c3 c4 c5) (.int 0)) (ne_b3_b43 : b3 ≠ b43) (ne_b3_b79 : b3 ≠ b79) (ne_b43_b79 : b43 ≠ b79) (g_b3 : n0 ≤ b3) (g_b43 : n0 ≤ b43) (g_b79 : n0 ≤ b79) (hn0 : ¬ (mx4 + 1) < 0) (hn6 : (mx4 + 1).toNatClampNeg ≤ 6) (hi0 : ¬ c0 < 0 ∧ c0 < mx4 + 1) (hi1 : ¬ c1 < 0 ∧ c1 < mx4 + 1) (hi2 : ¬ c2 < 0 ∧ c2 < mx4 + 1) (hi3 : ¬ c3 < 0 ∧ c3 < mx4 + 1) (hi4 : ¬ c4 < 0 ∧ c4 < mx4 + 1) (hi5 : ¬ c5 < 0 ∧ c5 < mx4 + 1) (hf0 : own_first c0 c1 c2 c3 c4 c5 0 = f0) (hf1 : own_first c0 c1 c2 c3 c4 c5 1 = f1) (hf2 : own_first c0 c1 c2 c3 c4 c5 2 = f2) (hf3 : own_first c0 c1 c2 c3 c4 c5 3 = f3) (hf4 : own_first c0 c1 c2 c3 c4 c5 4 = f4) (hf5 : own_first c0 c1 c2 c3 c4 c5 5 = f5) :
    ∃ s₂ o, Steps p.tables e below (s₁.setTop (entryFrame m #[(.int p1)] maxLocals)) s₂ ∧ s₂.status = .running ∧ Ended s₂ below o ∧ ∃ v L, o = .returned v ∧ Q_0 Z p1 h0 n0 v s₂.heap L ∧ FrameEnd s o s₂ L room_1.cells room_1.slots := by
  have hx := Bd.exec
  have hby := Bd.bytes
  have hown : s.vm.findClass "com/example/even_odds/evenodds/relation/PartitionFirstStatesPinLaw" = some m.cls := findClass_of_methodNamed Bd.named
  have hnm := (name_of_methodNamed Bd.named Bd.method).1
  obtain ⟨r2, hr2, hq2⟩ := own_rget (n := (mx4 + 1).toNatClampNeg) (k := 2) hi0.1 hi1.1 hi2.1 hi3.1 hi4.1 hi5.1 (by decide)
  rw [hf2] at hq2
  have pre93 : ∀ t, Steps p.tables e below (Tc.setTop (mkF m 252 #[.val (.int p1), .val (.ref b3), .val (.int mx4), .val (.int (mx4 + (1 : Int32))), .val (.ref b43), .val (.ref b79), .val (.ref br), .val (.int (1 : Int32))] [(.int (2 : Int32)), (.ref b43), (.ref br)])) t → Steps p.tables e below (s₁.setTop (entryFrame m #[(.int p1)] maxLocals)) t := fun t k => prec t (by
    show Steps p.tables e below (Tc.setTop (mkF m 244 #[.val (.int p1), .val (.ref b3), .val (.int mx4), .val (.int (mx4 + (1 : Int32))), .val (.ref b43), .val (.ref b79), .val (.ref br), .val (.int (1 : Int32))] [(.int (1 : Int32))])) _
    refine XS.ifNo Xc.here hx rfl (hb hby at_244) rfl (XT.i0_eq_f (by decide)) ?_
    show Steps p.tables e below (Tc.setTop (mkF m 247 #[.val (.int p1), .val (.ref b3), .val (.int mx4), .val (.int (mx4 + (1 : Int32))), .val (.ref b43), .val (.ref b79), .val (.ref br), .val (.int (1 : Int32))] [])) _
    refine XS.aload Xc.here hx rfl (hb hby at_247) rfl rfl ?_
    show Steps p.tables e below (Tc.setTop (mkF m 249 #[.val (.int p1), .val (.ref b3), .val (.int mx4), .val (.int (mx4 + (1 : Int32))), .val (.ref b43), .val (.ref b79), .val (.ref br), .val (.int (1 : Int32))] [(.ref br)])) _
    refine XS.aload Xc.here hx rfl (hb hby at_249) rfl rfl ?_
    show Steps p.tables e below (Tc.setTop (mkF m 251 #[.val (.int p1), .val (.ref b3), .val (.int mx4), .val (.int (mx4 + (1 : Int32))), .val (.ref b43), .val (.ref b79), .val (.ref br), .val (.int (1 : Int32))] [(.ref b43), (.ref br)])) _
    refine XS.iconst Xc.here hx rfl (hb hby at_251) ?_
    show Steps p.tables e below (Tc.setTop (mkF m 252 #[.val (.int p1), .val (.ref b3), .val (.int mx4), .val (.int (mx4 + (1 : Int32))), .val (.ref b43), .val (.ref b79), .val (.ref br), .val (.int (1 : Int32))] [(.int (2 : Int32)), (.ref b43), (.ref br)])) _
    exact k)
  obtain ⟨_, _, ⟨T94, L94, kk94, nn94⟩, -, X94, ⟨Lc94, hQ94, l94, y94, z94⟩, st94⟩ := Jvm.LawKit.callS Xc hx (y := (⟨"com/example/even_odds/evenodds/relation/PartitionFirstStatesPinLaw", "check", "([I[II)Z"⟩ : MethodName)) hown (mvT hZ (hw _ (List.mem_of_getElem? (i := 27) rfl))) (mvT hZ (hw _ (List.mem_of_getElem? (i := 28) rfl))) (mvT hZ (hw _ (List.mem_of_getElem? (i := 7) rfl))) (mvT hZ (hw _ (List.mem_of_getElem? (i := 29) rfl))) (by decide) (backOf (W := 0) (rm_chk l Z a0 hw [] br b43 2 (mx4 + (1 : Int32)) r2 f2 kr k43 _ _ hhc n0 Zc fc7_2 fc7_1 (by decide) hr2 rfl (fun h1 h2 => hq2 (own_nlt ⟨by decide, h1⟩) h2)) hZ (hw _ (List.mem_of_getElem? (i := 29) rfl)) (hw _ (List.mem_of_getElem? (i := 7) rfl)) (by decide) (by decide)) (g := (mkF m 252 #[.val (.int p1), .val (.ref b3), .val (.int mx4), .val (.int (mx4 + (1 : Int32))), .val (.ref b43), .val (.ref b79), .val (.ref br), .val (.int (1 : Int32))] [(.int (2 : Int32)), (.ref b43), (.ref br)])) rfl (by rw [hml]; rfl) (argsL := [(.ref br), (.ref b43), (.int (2 : Int32))]) (rest := []) (lenOf pd___I_II_Z rfl) rfl (by show 2 * 0 + _ ≤ _; exact Nat.le_of_eq rfl) (hb hby at_252) (fun _ _ => ⟨rfl, ec, (by decide : 4 + 0 ≤ _), (by decide : 20 + 0 ≤ _)⟩)
  dsimp only [Pt.U, Pt.locs, Pt.cells, Pt.slots] at X94 l94 y94 z94 st94 hQ94
  subst l94 y94 z94
  obtain ⟨rfl, N94q, eq94⟩ := hQ94
  have N94 := Fr.app Nc N94q
  clear N94q
  obtain ⟨r3, hr3, hq3⟩ := own_rget (n := (mx4 + 1).toNatClampNeg) (k := 3) hi0.1 hi1.1 hi2.1 hi3.1 hi4.1 hi5.1 (by decide)
  rw [hf3] at hq3
  have pre95 : ∀ t, Steps p.tables e below (T94.setTop (mkF m 275 #[.val (.int p1), .val (.ref b3), .val (.int mx4), .val (.int (mx4 + (1 : Int32))), .val (.ref b43), .val (.ref b79), .val (.ref br), .val (.int (1 : Int32))] [(.int (3 : Int32)), (.ref b43), (.ref br)])) t → Steps p.tables e below (s₁.setTop (entryFrame m #[(.int p1)] maxLocals)) t := fun t k => pre93 t (by
    show Steps p.tables e below (Tc.setTop (mkF m 252 #[.val (.int p1), .val (.ref b3), .val (.int mx4), .val (.int (mx4 + (1 : Int32))), .val (.ref b43), .val (.ref b79), .val (.ref br), .val (.int (1 : Int32))] [(.int (2 : Int32)), (.ref b43), (.ref br)])) _
    refine st94 _ ?_
    show Steps p.tables e below (T94.setTop (mkF m 255 #[.val (.int p1), .val (.ref b3), .val (.int mx4), .val (.int (mx4 + (1 : Int32))), .val (.ref b43), .val (.ref b79), .val (.ref br), .val (.int (1 : Int32))] [(.int (1 : Int32))])) _
    refine XS.ifNo X94.here hx rfl (hb hby at_255) rfl (XT.i0_eq_f (by decide)) ?_
    show Steps p.tables e below (T94.setTop (mkF m 258 #[.val (.int p1), .val (.ref b3), .val (.int mx4), .val (.int (mx4 + (1 : Int32))), .val (.ref b43), .val (.ref b79), .val (.ref br), .val (.int (1 : Int32))] [])) _
    refine XS.iconst X94.here hx rfl (hb hby at_258) ?_
    show Steps p.tables e below (T94.setTop (mkF m 259 #[.val (.int p1), .val (.ref b3), .val (.int mx4), .val (.int (mx4 + (1 : Int32))), .val (.ref b43), .val (.ref b79), .val (.ref br), .val (.int (1 : Int32))] [(.int (1 : Int32))])) _
    refine XS.goto X94.here hx rfl (pc0 := 259) (pc' := 263) rfl (hb hby at_259) (by decide) (by decide) ?_
    show Steps p.tables e below (T94.setTop (mkF m 263 #[.val (.int p1), .val (.ref b3), .val (.int mx4), .val (.int (mx4 + (1 : Int32))), .val (.ref b43), .val (.ref b79), .val (.ref br), .val (.int (1 : Int32))] [(.int (1 : Int32))])) _
    refine XS.istore X94.here hx rfl (hb hby at_263) rfl (l' := #[.val (.int p1), .val (.ref b3), .val (.int mx4), .val (.int (mx4 + (1 : Int32))), .val (.ref b43), .val (.ref b79), .val (.ref br), .val (.int (1 : Int32))]) rfl ?_
    show Steps p.tables e below (T94.setTop (mkF m 265 #[.val (.int p1), .val (.ref b3), .val (.int mx4), .val (.int (mx4 + (1 : Int32))), .val (.ref b43), .val (.ref b79), .val (.ref br), .val (.int (1 : Int32))] [])) _
    refine XS.iload X94.here hx rfl (hb hby at_265) rfl ?_
    show Steps p.tables e below (T94.setTop (mkF m 267 #[.val (.int p1), .val (.ref b3), .val (.int mx4), .val (.int (mx4 + (1 : Int32))), .val (.ref b43), .val (.ref b79), .val (.ref br), .val (.int (1 : Int32))] [(.int (1 : Int32))])) _
    refine XS.ifNo X94.here hx rfl (hb hby at_267) rfl (XT.i0_eq_f (by decide)) ?_
    show Steps p.tables e below (T94.setTop (mkF m 270 #[.val (.int p1), .val (.ref b3), .val (.int mx4), .val (.int (mx4 + (1 : Int32))), .val (.ref b43), .val (.ref b79), .val (.ref br), .val (.int (1 : Int32))] [])) _
    refine XS.aload X94.here hx rfl (hb hby at_270) rfl rfl ?_
    show Steps p.tables e below (T94.setTop (mkF m 272 #[.val (.int p1), .val (.ref b3), .val (.int mx4), .val (.int (mx4 + (1 : Int32))), .val (.ref b43), .val (.ref b79), .val (.ref br), .val (.int (1 : Int32))] [(.ref br)])) _
    refine XS.aload X94.here hx rfl (hb hby at_272) rfl rfl ?_
    show Steps p.tables e below (T94.setTop (mkF m 274 #[.val (.int p1), .val (.ref b3), .val (.int mx4), .val (.int (mx4 + (1 : Int32))), .val (.ref b43), .val (.ref b79), .val (.ref br), .val (.int (1 : Int32))] [(.ref b43), (.ref br)])) _
    refine XS.iconst X94.here hx rfl (hb hby at_274) ?_
    show Steps p.tables e below (T94.setTop (mkF m 275 #[.val (.int p1), .val (.ref b3), .val (.int mx4), .val (.int (mx4 + (1 : Int32))), .val (.ref b43), .val (.ref b79), .val (.ref br), .val (.int (1 : Int32))] [(.int (3 : Int32)), (.ref b43), (.ref br)])) _
    exact k)
  obtain ⟨_, _, ⟨T96, L96, kk96, nn96⟩, -, X96, ⟨Lc96, hQ96, l96, y96, z96⟩, st96⟩ := Jvm.LawKit.callS X94 hx (y := (⟨"com/example/even_odds/evenodds/relation/PartitionFirstStatesPinLaw", "check", "([I[II)Z"⟩ : MethodName)) hown (mvT hZ (hw _ (List.mem_of_getElem? (i := 27) rfl))) (mvT hZ (hw _ (List.mem_of_getElem? (i := 28) rfl))) (mvT hZ (hw _ (List.mem_of_getElem? (i := 7) rfl))) (mvT hZ (hw _ (List.mem_of_getElem? (i := 29) rfl))) (by decide) (backOf (W := 0) (rm_chk l Z a0 hw [] br b43 3 (mx4 + (1 : Int32)) r3 f3 kr k43 _ _ hhc n0 Zc fc7_2 fc7_1 (by decide) hr3 rfl (fun h1 h2 => hq3 (own_nlt ⟨by decide, h1⟩) h2)) hZ (hw _ (List.mem_of_getElem? (i := 29) rfl)) (hw _ (List.mem_of_getElem? (i := 7) rfl)) (by decide) (by decide)) (g := (mkF m 275 #[.val (.int p1), .val (.ref b3), .val (.int mx4), .val (.int (mx4 + (1 : Int32))), .val (.ref b43), .val (.ref b79), .val (.ref br), .val (.int (1 : Int32))] [(.int (3 : Int32)), (.ref b43), (.ref br)])) rfl (by rw [hml]; rfl) (argsL := [(.ref br), (.ref b43), (.int (3 : Int32))]) (rest := []) (lenOf pd___I_II_Z rfl) rfl (by show 2 * 0 + _ ≤ _; exact Nat.le_of_eq rfl) (hb hby at_275) (fun _ _ => ⟨rfl, eq94, (by decide : 4 + 0 ≤ _), (by decide : 20 + 0 ≤ _)⟩)
  dsimp only [Pt.U, Pt.locs, Pt.cells, Pt.slots] at X96 l96 y96 z96 st96 hQ96
  subst l96 y96 z96
  obtain ⟨rfl, N96q, eq96⟩ := hQ96
  have N96 := Fr.app N94 N96q
  clear pre93 X94 st94 eq94 N94 N96q
  have pre97 : ∀ t, Steps p.tables e below (T96.setTop (mkF m 290 #[.val (.int p1), .val (.ref b3), .val (.int mx4), .val (.int (mx4 + (1 : Int32))), .val (.ref b43), .val (.ref b79), .val (.ref br), .val (.int (1 : Int32))] [(.int (1 : Int32))])) t → Steps p.tables e below (s₁.setTop (entryFrame m #[(.int p1)] maxLocals)) t := fun t k => pre95 t (by
    show Steps p.tables e below (T94.setTop (mkF m 275 #[.val (.int p1), .val (.ref b3), .val (.int mx4), .val (.int (mx4 + (1 : Int32))), .val (.ref b43), .val (.ref b79), .val (.ref br), .val (.int (1 : Int32))] [(.int (3 : Int32)), (.ref b43), (.ref br)])) _
    refine st96 _ ?_
    show Steps p.tables e below (T96.setTop (mkF m 278 #[.val (.int p1), .val (.ref b3), .val (.int mx4), .val (.int (mx4 + (1 : Int32))), .val (.ref b43), .val (.ref b79), .val (.ref br), .val (.int (1 : Int32))] [(.int (1 : Int32))])) _
    refine XS.ifNo X96.here hx rfl (hb hby at_278) rfl (XT.i0_eq_f (by decide)) ?_
    show Steps p.tables e below (T96.setTop (mkF m 281 #[.val (.int p1), .val (.ref b3), .val (.int mx4), .val (.int (mx4 + (1 : Int32))), .val (.ref b43), .val (.ref b79), .val (.ref br), .val (.int (1 : Int32))] [])) _
    refine XS.iconst X96.here hx rfl (hb hby at_281) ?_
    show Steps p.tables e below (T96.setTop (mkF m 282 #[.val (.int p1), .val (.ref b3), .val (.int mx4), .val (.int (mx4 + (1 : Int32))), .val (.ref b43), .val (.ref b79), .val (.ref br), .val (.int (1 : Int32))] [(.int (1 : Int32))])) _
    refine XS.goto X96.here hx rfl (pc0 := 282) (pc' := 286) rfl (hb hby at_282) (by decide) (by decide) ?_
    show Steps p.tables e below (T96.setTop (mkF m 286 #[.val (.int p1), .val (.ref b3), .val (.int mx4), .val (.int (mx4 + (1 : Int32))), .val (.ref b43), .val (.ref b79), .val (.ref br), .val (.int (1 : Int32))] [(.int (1 : Int32))])) _
    refine XS.istore X96.here hx rfl (hb hby at_286) rfl (l' := #[.val (.int p1), .val (.ref b3), .val (.int mx4), .val (.int (mx4 + (1 : Int32))), .val (.ref b43), .val (.ref b79), .val (.ref br), .val (.int (1 : Int32))]) rfl ?_
    show Steps p.tables e below (T96.setTop (mkF m 288 #[.val (.int p1), .val (.ref b3), .val (.int mx4), .val (.int (mx4 + (1 : Int32))), .val (.ref b43), .val (.ref b79), .val (.ref br), .val (.int (1 : Int32))] [])) _
    refine XS.iload X96.here hx rfl (hb hby at_288) rfl ?_
    show Steps p.tables e below (T96.setTop (mkF m 290 #[.val (.int p1), .val (.ref b3), .val (.int mx4), .val (.int (mx4 + (1 : Int32))), .val (.ref b43), .val (.ref b79), .val (.ref br), .val (.int (1 : Int32))] [(.int (1 : Int32))])) _
    exact k)
  exact rs_0_8 l Z a0 hw ws p1 h0 n0 c0 c1 c2 c3 c4 c5 mx4 f0 f1 f2 f3 f4 f5 b3 k3 b43 k43 br kr b79 Bd hZ hml hhc X96 eq96 N96 Zc pre97 fc7_0 fc7_1 fc7_2 ne_b3_b43 ne_b3_b79 ne_b43_b79 g_b3 g_b43 g_b79 hn0 hn6 hi0 hi1 hi2 hi3 hi4 hi5 hf0 hf1 hf2 hf3 hf4 hf5
set_option maxRecDepth 65536 in
set_option maxHeartbeats 40000000 in
theorem rs_0_6 (l : Launch) (Z : State) (a0 : Array Value) (hw : ∀ d ∈ tables_1, d.before a0 Z = true) (ws : List Jvm.Cond) (p1 : Int32) (h0 : Heap) (n0 : Nat) (c0 : Int32) (c1 : Int32) (c2 : Int32) (c3 : Int32) (c4 : Int32) (c5 : Int32) (mx4 : Int32) (f0 : Int32) (f1 : Int32) (f2 : Int32) (f3 : Int32) (f4 : Int32) (f5 : Int32) (b3 : Addr) (k3 : ClassId) (b43 : Addr) (k43 : ClassId) (br : Addr) (kr : ClassId) (b79 : Addr) {p e s m below meth c s₁} (Bd : BodyLoose p l x (head1 (Jvm.Cond.code x code maxLocals ret :: ws) room_1) code maxLocals ret e s m #[(.int p1)] below meth c s₁) (hZ : Z.Warmed39 s.vm) (hml : c.maxLocals = 8) {Tc Lc0} (hhc : Heap) (Xc : Stand p l e room_1 s m #[(.int p1)] below meth c Tc Lc0 4 20) (ec : Tc.heap = hhc) (Nc : Fr n0 Lc0) (Zc : n0 ≤ hhc.size) (prec : ∀ t, Steps p.tables e below (Tc.setTop (mkF m 214 #[.val (.int p1), .val (.ref b3), .val (.int mx4), .val (.int (mx4 + (1 : Int32))), .val (.ref b43), .val (.ref b79), .val (.ref br), .unset] [(.int (0 : Int32)), (.ref b43), (.ref br)])) t → Steps p.tables e below (s₁.setTop (entryFrame m #[(.int p1)] maxLocals)) t) (fc6_0 : Arv Z hhc b3 k3 .int (6 : Int32) [(.int c0), (.int c1), (.int c2), (.int c3), (.int c4), (.int c5)] (.int (0 : Int32))) (fc6_1 : Arv Z hhc b43 k43 .int (6 : Int32) [(.int f0), (.int f1), (.int f2), (.int f3), (.int f4), (.int f5)] (.int (0 : Int32))) (fc6_2 : Arv Z hhc br kr .int (mx4 + (1 : Int32)) (own_r (mx4 + 1).toNatClampNeg c0 c1 c2 c3 c4 c5) (.int 0)) (ne_b3_b43 : b3 ≠ b43) (ne_b3_b79 : b3 ≠ b79) (ne_b43_b79 : b43 ≠ b79) (g_b3 : n0 ≤ b3) (g_b43 : n0 ≤ b43) (g_b79 : n0 ≤ b79) (hn0 : ¬ (mx4 + 1) < 0) (hn6 : (mx4 + 1).toNatClampNeg ≤ 6) (hi0 : ¬ c0 < 0 ∧ c0 < mx4 + 1) (hi1 : ¬ c1 < 0 ∧ c1 < mx4 + 1) (hi2 : ¬ c2 < 0 ∧ c2 < mx4 + 1) (hi3 : ¬ c3 < 0 ∧ c3 < mx4 + 1) (hi4 : ¬ c4 < 0 ∧ c4 < mx4 + 1) (hi5 : ¬ c5 < 0 ∧ c5 < mx4 + 1) (hf0 : own_first c0 c1 c2 c3 c4 c5 0 = f0) (hf1 : own_first c0 c1 c2 c3 c4 c5 1 = f1) (hf2 : own_first c0 c1 c2 c3 c4 c5 2 = f2) (hf3 : own_first c0 c1 c2 c3 c4 c5 3 = f3) (hf4 : own_first c0 c1 c2 c3 c4 c5 4 = f4) (hf5 : own_first c0 c1 c2 c3 c4 c5 5 = f5) :
    ∃ s₂ o, Steps p.tables e below (s₁.setTop (entryFrame m #[(.int p1)] maxLocals)) s₂ ∧ s₂.status = .running ∧ Ended s₂ below o ∧ ∃ v L, o = .returned v ∧ Q_0 Z p1 h0 n0 v s₂.heap L ∧ FrameEnd s o s₂ L room_1.cells room_1.slots := by
  have hx := Bd.exec
  have hby := Bd.bytes
  have hown : s.vm.findClass "com/example/even_odds/evenodds/relation/PartitionFirstStatesPinLaw" = some m.cls := findClass_of_methodNamed Bd.named
  have hnm := (name_of_methodNamed Bd.named Bd.method).1
  obtain ⟨r0, hr0, hq0⟩ := own_rget (n := (mx4 + 1).toNatClampNeg) (k := 0) hi0.1 hi1.1 hi2.1 hi3.1 hi4.1 hi5.1 (by decide)
  rw [hf0] at hq0
  obtain ⟨_, _, ⟨T89, L89, kk89, nn89⟩, -, X89, ⟨Lc89, hQ89, l89, y89, z89⟩, st89⟩ := Jvm.LawKit.callS Xc hx (y := (⟨"com/example/even_odds/evenodds/relation/PartitionFirstStatesPinLaw", "check", "([I[II)Z"⟩ : MethodName)) hown (mvT hZ (hw _ (List.mem_of_getElem? (i := 27) rfl))) (mvT hZ (hw _ (List.mem_of_getElem? (i := 28) rfl))) (mvT hZ (hw _ (List.mem_of_getElem? (i := 7) rfl))) (mvT hZ (hw _ (List.mem_of_getElem? (i := 29) rfl))) (by decide) (backOf (W := 0) (rm_chk l Z a0 hw [] br b43 0 (mx4 + (1 : Int32)) r0 f0 kr k43 _ _ hhc n0 Zc fc6_2 fc6_1 (by decide) hr0 rfl (fun h1 h2 => hq0 (own_nlt ⟨by decide, h1⟩) h2)) hZ (hw _ (List.mem_of_getElem? (i := 29) rfl)) (hw _ (List.mem_of_getElem? (i := 7) rfl)) (by decide) (by decide)) (g := (mkF m 214 #[.val (.int p1), .val (.ref b3), .val (.int mx4), .val (.int (mx4 + (1 : Int32))), .val (.ref b43), .val (.ref b79), .val (.ref br), .unset] [(.int (0 : Int32)), (.ref b43), (.ref br)])) rfl (by rw [hml]; rfl) (argsL := [(.ref br), (.ref b43), (.int (0 : Int32))]) (rest := []) (lenOf pd___I_II_Z rfl) rfl (by show 2 * 0 + _ ≤ _; exact Nat.le_of_eq rfl) (hb hby at_214) (fun _ _ => ⟨rfl, ec, (by decide : 4 + 0 ≤ _), (by decide : 20 + 0 ≤ _)⟩)
  dsimp only [Pt.U, Pt.locs, Pt.cells, Pt.slots] at X89 l89 y89 z89 st89 hQ89
  subst l89 y89 z89
  obtain ⟨rfl, N89q, eq89⟩ := hQ89
  have N89 := Fr.app Nc N89q
  clear N89q
  obtain ⟨r1, hr1, hq1⟩ := own_rget (n := (mx4 + 1).toNatClampNeg) (k := 1) hi0.1 hi1.1 hi2.1 hi3.1 hi4.1 hi5.1 (by decide)
  rw [hf1] at hq1
  have pre90 : ∀ t, Steps p.tables e below (T89.setTop (mkF m 229 #[.val (.int p1), .val (.ref b3), .val (.int mx4), .val (.int (mx4 + (1 : Int32))), .val (.ref b43), .val (.ref b79), .val (.ref br), .val (.int (1 : Int32))] [(.int (1 : Int32)), (.ref b43), (.ref br)])) t → Steps p.tables e below (s₁.setTop (entryFrame m #[(.int p1)] maxLocals)) t := fun t k => prec t (by
    show Steps p.tables e below (Tc.setTop (mkF m 214 #[.val (.int p1), .val (.ref b3), .val (.int mx4), .val (.int (mx4 + (1 : Int32))), .val (.ref b43), .val (.ref b79), .val (.ref br), .unset] [(.int (0 : Int32)), (.ref b43), (.ref br)])) _
    refine st89 _ ?_
    show Steps p.tables e below (T89.setTop (mkF m 217 #[.val (.int p1), .val (.ref b3), .val (.int mx4), .val (.int (mx4 + (1 : Int32))), .val (.ref b43), .val (.ref b79), .val (.ref br), .unset] [(.int (1 : Int32))])) _
    refine XS.istore X89.here hx rfl (hb hby at_217) rfl (l' := #[.val (.int p1), .val (.ref b3), .val (.int mx4), .val (.int (mx4 + (1 : Int32))), .val (.ref b43), .val (.ref b79), .val (.ref br), .val (.int (1 : Int32))]) rfl ?_
    show Steps p.tables e below (T89.setTop (mkF m 219 #[.val (.int p1), .val (.ref b3), .val (.int mx4), .val (.int (mx4 + (1 : Int32))), .val (.ref b43), .val (.ref b79), .val (.ref br), .val (.int (1 : Int32))] [])) _
    refine XS.iload X89.here hx rfl (hb hby at_219) rfl ?_
    show Steps p.tables e below (T89.setTop (mkF m 221 #[.val (.int p1), .val (.ref b3), .val (.int mx4), .val (.int (mx4 + (1 : Int32))), .val (.ref b43), .val (.ref b79), .val (.ref br), .val (.int (1 : Int32))] [(.int (1 : Int32))])) _
    refine XS.ifNo X89.here hx rfl (hb hby at_221) rfl (XT.i0_eq_f (by decide)) ?_
    show Steps p.tables e below (T89.setTop (mkF m 224 #[.val (.int p1), .val (.ref b3), .val (.int mx4), .val (.int (mx4 + (1 : Int32))), .val (.ref b43), .val (.ref b79), .val (.ref br), .val (.int (1 : Int32))] [])) _
    refine XS.aload X89.here hx rfl (hb hby at_224) rfl rfl ?_
    show Steps p.tables e below (T89.setTop (mkF m 226 #[.val (.int p1), .val (.ref b3), .val (.int mx4), .val (.int (mx4 + (1 : Int32))), .val (.ref b43), .val (.ref b79), .val (.ref br), .val (.int (1 : Int32))] [(.ref br)])) _
    refine XS.aload X89.here hx rfl (hb hby at_226) rfl rfl ?_
    show Steps p.tables e below (T89.setTop (mkF m 228 #[.val (.int p1), .val (.ref b3), .val (.int mx4), .val (.int (mx4 + (1 : Int32))), .val (.ref b43), .val (.ref b79), .val (.ref br), .val (.int (1 : Int32))] [(.ref b43), (.ref br)])) _
    refine XS.iconst X89.here hx rfl (hb hby at_228) ?_
    show Steps p.tables e below (T89.setTop (mkF m 229 #[.val (.int p1), .val (.ref b3), .val (.int mx4), .val (.int (mx4 + (1 : Int32))), .val (.ref b43), .val (.ref b79), .val (.ref br), .val (.int (1 : Int32))] [(.int (1 : Int32)), (.ref b43), (.ref br)])) _
    exact k)
  obtain ⟨_, _, ⟨T91, L91, kk91, nn91⟩, -, X91, ⟨Lc91, hQ91, l91, y91, z91⟩, st91⟩ := Jvm.LawKit.callS X89 hx (y := (⟨"com/example/even_odds/evenodds/relation/PartitionFirstStatesPinLaw", "check", "([I[II)Z"⟩ : MethodName)) hown (mvT hZ (hw _ (List.mem_of_getElem? (i := 27) rfl))) (mvT hZ (hw _ (List.mem_of_getElem? (i := 28) rfl))) (mvT hZ (hw _ (List.mem_of_getElem? (i := 7) rfl))) (mvT hZ (hw _ (List.mem_of_getElem? (i := 29) rfl))) (by decide) (backOf (W := 0) (rm_chk l Z a0 hw [] br b43 1 (mx4 + (1 : Int32)) r1 f1 kr k43 _ _ hhc n0 Zc fc6_2 fc6_1 (by decide) hr1 rfl (fun h1 h2 => hq1 (own_nlt ⟨by decide, h1⟩) h2)) hZ (hw _ (List.mem_of_getElem? (i := 29) rfl)) (hw _ (List.mem_of_getElem? (i := 7) rfl)) (by decide) (by decide)) (g := (mkF m 229 #[.val (.int p1), .val (.ref b3), .val (.int mx4), .val (.int (mx4 + (1 : Int32))), .val (.ref b43), .val (.ref b79), .val (.ref br), .val (.int (1 : Int32))] [(.int (1 : Int32)), (.ref b43), (.ref br)])) rfl (by rw [hml]; rfl) (argsL := [(.ref br), (.ref b43), (.int (1 : Int32))]) (rest := []) (lenOf pd___I_II_Z rfl) rfl (by show 2 * 0 + _ ≤ _; exact Nat.le_of_eq rfl) (hb hby at_229) (fun _ _ => ⟨rfl, eq89, (by decide : 4 + 0 ≤ _), (by decide : 20 + 0 ≤ _)⟩)
  dsimp only [Pt.U, Pt.locs, Pt.cells, Pt.slots] at X91 l91 y91 z91 st91 hQ91
  subst l91 y91 z91
  obtain ⟨rfl, N91q, eq91⟩ := hQ91
  have N91 := Fr.app N89 N91q
  clear X89 st89 eq89 N89 N91q
  have pre92 : ∀ t, Steps p.tables e below (T91.setTop (mkF m 244 #[.val (.int p1), .val (.ref b3), .val (.int mx4), .val (.int (mx4 + (1 : Int32))), .val (.ref b43), .val (.ref b79), .val (.ref br), .val (.int (1 : Int32))] [(.int (1 : Int32))])) t → Steps p.tables e below (s₁.setTop (entryFrame m #[(.int p1)] maxLocals)) t := fun t k => pre90 t (by
    show Steps p.tables e below (T89.setTop (mkF m 229 #[.val (.int p1), .val (.ref b3), .val (.int mx4), .val (.int (mx4 + (1 : Int32))), .val (.ref b43), .val (.ref b79), .val (.ref br), .val (.int (1 : Int32))] [(.int (1 : Int32)), (.ref b43), (.ref br)])) _
    refine st91 _ ?_
    show Steps p.tables e below (T91.setTop (mkF m 232 #[.val (.int p1), .val (.ref b3), .val (.int mx4), .val (.int (mx4 + (1 : Int32))), .val (.ref b43), .val (.ref b79), .val (.ref br), .val (.int (1 : Int32))] [(.int (1 : Int32))])) _
    refine XS.ifNo X91.here hx rfl (hb hby at_232) rfl (XT.i0_eq_f (by decide)) ?_
    show Steps p.tables e below (T91.setTop (mkF m 235 #[.val (.int p1), .val (.ref b3), .val (.int mx4), .val (.int (mx4 + (1 : Int32))), .val (.ref b43), .val (.ref b79), .val (.ref br), .val (.int (1 : Int32))] [])) _
    refine XS.iconst X91.here hx rfl (hb hby at_235) ?_
    show Steps p.tables e below (T91.setTop (mkF m 236 #[.val (.int p1), .val (.ref b3), .val (.int mx4), .val (.int (mx4 + (1 : Int32))), .val (.ref b43), .val (.ref b79), .val (.ref br), .val (.int (1 : Int32))] [(.int (1 : Int32))])) _
    refine XS.goto X91.here hx rfl (pc0 := 236) (pc' := 240) rfl (hb hby at_236) (by decide) (by decide) ?_
    show Steps p.tables e below (T91.setTop (mkF m 240 #[.val (.int p1), .val (.ref b3), .val (.int mx4), .val (.int (mx4 + (1 : Int32))), .val (.ref b43), .val (.ref b79), .val (.ref br), .val (.int (1 : Int32))] [(.int (1 : Int32))])) _
    refine XS.istore X91.here hx rfl (hb hby at_240) rfl (l' := #[.val (.int p1), .val (.ref b3), .val (.int mx4), .val (.int (mx4 + (1 : Int32))), .val (.ref b43), .val (.ref b79), .val (.ref br), .val (.int (1 : Int32))]) rfl ?_
    show Steps p.tables e below (T91.setTop (mkF m 242 #[.val (.int p1), .val (.ref b3), .val (.int mx4), .val (.int (mx4 + (1 : Int32))), .val (.ref b43), .val (.ref b79), .val (.ref br), .val (.int (1 : Int32))] [])) _
    refine XS.iload X91.here hx rfl (hb hby at_242) rfl ?_
    show Steps p.tables e below (T91.setTop (mkF m 244 #[.val (.int p1), .val (.ref b3), .val (.int mx4), .val (.int (mx4 + (1 : Int32))), .val (.ref b43), .val (.ref b79), .val (.ref br), .val (.int (1 : Int32))] [(.int (1 : Int32))])) _
    exact k)
  exact rs_0_7 l Z a0 hw ws p1 h0 n0 c0 c1 c2 c3 c4 c5 mx4 f0 f1 f2 f3 f4 f5 b3 k3 b43 k43 br kr b79 Bd hZ hml hhc X91 eq91 N91 Zc pre92 fc6_0 fc6_1 fc6_2 ne_b3_b43 ne_b3_b79 ne_b43_b79 g_b3 g_b43 g_b79 hn0 hn6 hi0 hi1 hi2 hi3 hi4 hi5 hf0 hf1 hf2 hf3 hf4 hf5
set_option maxRecDepth 65536 in
set_option maxHeartbeats 40000000 in
theorem rs_0_5 (l : Launch) (Z : State) (a0 : Array Value) (hw : ∀ d ∈ tables_1, d.before a0 Z = true) (ws : List Jvm.Cond) (p1 : Int32) (h0 : Heap) (n0 : Nat) (c0 : Int32) (c1 : Int32) (c2 : Int32) (c3 : Int32) (c4 : Int32) (c5 : Int32) (mx4 : Int32) (f0 : Int32) (f1 : Int32) (f2 : Int32) (f3 : Int32) (f4 : Int32) (f5 : Int32) (b3 : Addr) (k3 : ClassId) (b43 : Addr) (k43 : ClassId) {p e s m below meth c s₁} (Bd : BodyLoose p l x (head1 (Jvm.Cond.code x code maxLocals ret :: ws) room_1) code maxLocals ret e s m #[(.int p1)] below meth c s₁) (hZ : Z.Warmed39 s.vm) (hml : c.maxLocals = 8) {Tc Lc0} (hhc : Heap) (Xc : Stand p l e room_1 s m #[(.int p1)] below meth c Tc Lc0 2 12) (ec : Tc.heap = hhc) (Nc : Fr n0 Lc0) (Zc : n0 ≤ hhc.size) (prec : ∀ t, Steps p.tables e below (Tc.setTop (mkF m 177 #[.val (.int p1), .val (.ref b3), .val (.int mx4), .val (.int (mx4 + (1 : Int32))), .val (.ref b43), .unset, .unset, .unset] [])) t → Steps p.tables e below (s₁.setTop (entryFrame m #[(.int p1)] maxLocals)) t) (fc5_0 : Arv Z hhc b3 k3 .int (6 : Int32) [(.int c0), (.int c1), (.int c2), (.int c3), (.int c4), (.int c5)] (.int (0 : Int32))) (fc5_1 : Arv Z hhc b43 k43 .int (6 : Int32) [(.int f0), (.int f1), (.int f2), (.int f3), (.int f4), (.int f5)] (.int (0 : Int32))) (ne_b3_b43 : b3 ≠ b43) (g_b3 : n0 ≤ b3) (g_b43 : n0 ≤ b43) (hn0 : ¬ (mx4 + 1) < 0) (hn6 : (mx4 + 1).toNatClampNeg ≤ 6) (hi0 : ¬ c0 < 0 ∧ c0 < mx4 + 1) (hi1 : ¬ c1 < 0 ∧ c1 < mx4 + 1) (hi2 : ¬ c2 < 0 ∧ c2 < mx4 + 1) (hi3 : ¬ c3 < 0 ∧ c3 < mx4 + 1) (hi4 : ¬ c4 < 0 ∧ c4 < mx4 + 1) (hi5 : ¬ c5 < 0 ∧ c5 < mx4 + 1) (hf0 : own_first c0 c1 c2 c3 c4 c5 0 = f0) (hf1 : own_first c0 c1 c2 c3 c4 c5 1 = f1) (hf2 : own_first c0 c1 c2 c3 c4 c5 2 = f2) (hf3 : own_first c0 c1 c2 c3 c4 c5 3 = f3) (hf4 : own_first c0 c1 c2 c3 c4 c5 4 = f4) (hf5 : own_first c0 c1 c2 c3 c4 c5 5 = f5) :
    ∃ s₂ o, Steps p.tables e below (s₁.setTop (entryFrame m #[(.int p1)] maxLocals)) s₂ ∧ s₂.status = .running ∧ Ended s₂ below o ∧ ∃ v L, o = .returned v ∧ Q_0 Z p1 h0 n0 v s₂.heap L ∧ FrameEnd s o s₂ L room_1.cells room_1.slots := by
  have hx := Bd.exec
  have hby := Bd.bytes
  have hown : s.vm.findClass "com/example/even_odds/evenodds/relation/PartitionFirstStatesPinLaw" = some m.cls := findClass_of_methodNamed Bd.named
  have hnm := (name_of_methodNamed Bd.named Bd.method).1
  obtain ⟨T79, h79, X79, e79, E79, A79, D79, -, st79⟩ := newO Xc hx hZ hown (hw _ (List.mem_of_getElem? (i := 9) rfl)) (hw _ (List.mem_of_getElem? (i := 10) rfl)) (hw _ (List.mem_of_getElem? (i := 11) rfl)) ec (g := (mkF m 177 #[.val (.int p1), .val (.ref b3), .val (.int mx4), .val (.int (mx4 + (1 : Int32))), .val (.ref b43), .unset, .unset, .unset] [])) rfl (hb hby at_177) (by decide) (by decide)
  obtain ⟨b79, g79⟩ : ∃ z, z = hhc.size := ⟨_, rfl⟩
  rw [← g79] at A79 D79 st79
  have ne_b3_b79 : b3 ≠ b79 := Nat.ne_of_lt (Nat.lt_of_lt_of_eq fc5_0.lt g79.symm)
  have ne_b43_b79 : b43 ≠ b79 := Nat.ne_of_lt (Nat.lt_of_lt_of_eq fc5_1.lt g79.symm)
  have g_b79 : n0 ≤ b79 := Nat.le_trans Zc (Nat.le_of_eq g79.symm)
  have Z79 : n0 ≤ h79.size := Nat.le_trans Zc E79.1
  have f80_0 := fc5_0.ext E79
  have f80_1 := fc5_1.ext E79
  have F79_classOf : Fld Z h79 b79 "com/example/even_odds/evenodds/relation/Partition" "classOf" "[I" .null := D79 (Or.inr (hw _ (List.mem_of_getElem? (i := 19) rfl))) (ty := (.array .int)) (by decide)
  have F79_classCount : Fld Z h79 b79 "com/example/even_odds/evenodds/relation/Partition" "classCount" "I" (.int (0 : Int32)) := D79 (Or.inr (hw _ (List.mem_of_getElem? (i := 21) rfl))) (ty := .int) (by decide)
  have pre81 : ∀ t, Steps p.tables e below (T79.setTop (mkF m 183 #[.val (.int p1), .val (.ref b3), .val (.int mx4), .val (.int (mx4 + (1 : Int32))), .val (.ref b43), .unset, .unset, .unset] [(.int (mx4 + (1 : Int32))), (.ref b3), (.ref b79), (.ref b79)])) t → Steps p.tables e below (s₁.setTop (entryFrame m #[(.int p1)] maxLocals)) t := fun t k => prec t (by
    show Steps p.tables e below (Tc.setTop (mkF m 177 #[.val (.int p1), .val (.ref b3), .val (.int mx4), .val (.int (mx4 + (1 : Int32))), .val (.ref b43), .unset, .unset, .unset] [])) _
    refine st79 _ ?_
    show Steps p.tables e below (T79.setTop (mkF m 180 #[.val (.int p1), .val (.ref b3), .val (.int mx4), .val (.int (mx4 + (1 : Int32))), .val (.ref b43), .unset, .unset, .unset] [(.ref b79)])) _
    refine XS.dup X79.here hx rfl (hb hby at_180) rfl rfl ?_
    show Steps p.tables e below (T79.setTop (mkF m 181 #[.val (.int p1), .val (.ref b3), .val (.int mx4), .val (.int (mx4 + (1 : Int32))), .val (.ref b43), .unset, .unset, .unset] [(.ref b79), (.ref b79)])) _
    refine XS.aloadN X79.here hx rfl (hb hby at_181) rfl rfl ?_
    show Steps p.tables e below (T79.setTop (mkF m 182 #[.val (.int p1), .val (.ref b3), .val (.int mx4), .val (.int (mx4 + (1 : Int32))), .val (.ref b43), .unset, .unset, .unset] [(.ref b3), (.ref b79), (.ref b79)])) _
    refine XS.iloadN X79.here hx rfl (hb hby at_182) rfl ?_
    show Steps p.tables e below (T79.setTop (mkF m 183 #[.val (.int p1), .val (.ref b3), .val (.int mx4), .val (.int (mx4 + (1 : Int32))), .val (.ref b43), .unset, .unset, .unset] [(.int (mx4 + (1 : Int32))), (.ref b3), (.ref b79), (.ref b79)])) _
    exact k)
  obtain ⟨_, _, ⟨T82, L82, kk82, nn82⟩, -, X82, ⟨Lc82, hQ82, l82, y82, z82⟩, st82⟩ := X79.specialBack hx (y := (⟨"com/example/even_odds/evenodds/relation/Partition", "<init>", "([II)V"⟩ : MethodName)) rfl hown (mvT hZ (hw _ (List.mem_of_getElem? (i := 12) rfl))) (mvT hZ (hw _ (List.mem_of_getElem? (i := 13) rfl))) (mvT hZ (hw _ (List.mem_of_getElem? (i := 14) rfl))) (by decide) (backOf (W := 1) (rm_ini l Z a0 hw [] b79 b3 (mx4 + (1 : Int32)) _ _ h79 n0 Z79 A79 F79_classOf F79_classCount g_b79) hZ (hw _ (List.mem_of_getElem? (i := 14) rfl)) (hw _ (List.mem_of_getElem? (i := 11) rfl)) (by decide) (by decide)) (g := (mkF m 183 #[.val (.int p1), .val (.ref b3), .val (.int mx4), .val (.int (mx4 + (1 : Int32))), .val (.ref b43), .unset, .unset, .unset] [(.int (mx4 + (1 : Int32))), (.ref b3), (.ref b79), (.ref b79)])) rfl (by rw [hml]; rfl) (Steps.refl _) (a := b79) (argsL := [(.ref b3), (.int (mx4 + (1 : Int32)))]) (rest := [(.ref b79)]) (lenOf pd___II_V rfl) rfl (by show 2 * 0 + _ ≤ _; exact Nat.le_of_eq rfl) (hb hby at_183) (fun _ _ => ⟨rfl, e79, (by decide : 3 + 0 ≤ _), (by decide : 14 + 0 ≤ _)⟩)
  dsimp only [Pt.U, Pt.locs, Pt.cells, Pt.slots] at X82 l82 y82 z82 st82 hQ82
  subst l82 y82 z82
  obtain ⟨rfl, N82q, Kc82, Fo82, Fc82⟩ := hQ82
  have N82 := Fr.app Nc N82q
  have f83_0 := f80_0.keep Kc82 (by simp only [List.mem_cons, List.not_mem_nil, or_false, not_or]; exact ne_b3_b79)
  have f83_1 := f80_1.keep Kc82 (by simp only [List.mem_cons, List.not_mem_nil, or_false, not_or]; exact ne_b43_b79)
  have f83_2 := A79.keep Kc82
  have Z82 : n0 ≤ T82.heap.size := Nat.le_trans Z79 Kc82.1
  have e82 : T82.heap = T82.heap := rfl
  clear X79 e79 E79 A79 D79 st79 Z79 f80_0 f80_1 F79_classOf F79_classCount N82q Kc82
  have pre84 : ∀ t, Steps p.tables e below (T82.setTop (mkF m 190 #[.val (.int p1), .val (.ref b3), .val (.int mx4), .val (.int (mx4 + (1 : Int32))), .val (.ref b43), .val (.ref b79), .unset, .unset] [(.ref b79)])) t → Steps p.tables e below (s₁.setTop (entryFrame m #[(.int p1)] maxLocals)) t := fun t k => pre81 t (by
    show Steps p.tables e below (T79.setTop (mkF m 183 #[.val (.int p1), .val (.ref b3), .val (.int mx4), .val (.int (mx4 + (1 : Int32))), .val (.ref b43), .unset, .unset, .unset] [(.int (mx4 + (1 : Int32))), (.ref b3), (.ref b79), (.ref b79)])) _
    refine st82.trans ?_
    show Steps p.tables e below (T82.setTop (mkF m 186 #[.val (.int p1), .val (.ref b3), .val (.int mx4), .val (.int (mx4 + (1 : Int32))), .val (.ref b43), .unset, .unset, .unset] [(.ref b79)])) _
    refine XS.astore X82.here hx rfl (hb hby at_186) rfl rfl (l' := #[.val (.int p1), .val (.ref b3), .val (.int mx4), .val (.int (mx4 + (1 : Int32))), .val (.ref b43), .val (.ref b79), .unset, .unset]) rfl ?_
    show Steps p.tables e below (T82.setTop (mkF m 188 #[.val (.int p1), .val (.ref b3), .val (.int mx4), .val (.int (mx4 + (1 : Int32))), .val (.ref b43), .val (.ref b79), .unset, .unset] [])) _
    refine XS.aload X82.here hx rfl (hb hby at_188) rfl rfl ?_
    show Steps p.tables e below (T82.setTop (mkF m 190 #[.val (.int p1), .val (.ref b3), .val (.int mx4), .val (.int (mx4 + (1 : Int32))), .val (.ref b43), .val (.ref b79), .unset, .unset] [(.ref b79)])) _
    exact k)
  obtain ⟨cq85, kq85, q85a, q85b, q85c⟩ := isOf hZ e82 f83_2
  obtain ⟨_, _, ⟨T85, L85, kk85, nn85⟩, -, X85, ⟨Lc85, hQ85, l85, y85, z85⟩, st85⟩ := X82.virtualBack hx (y := (⟨"com/example/even_odds/evenodds/relation/Partition", "firstStates", "()[I"⟩ : MethodName)) (z := (⟨"com/example/even_odds/evenodds/relation/Partition", "firstStates", "()[I"⟩ : MethodName)) hown (mvT hZ (hw _ (List.mem_of_getElem? (i := 22) rfl))) (mvT hZ (hw _ (List.mem_of_getElem? (i := 23) rfl))) (notFace_of_selects (args := #[]) (mvT hZ (hw _ (List.mem_of_getElem? (i := 25) rfl)))) (mvT hZ (hw _ (List.mem_of_getElem? (i := 25) rfl))) (mvT hZ (hw _ (List.mem_of_getElem? (i := 24) rfl))) (by decide) (backOf (W := 0) (rm_fs l Z a0 hw [] b79 b3 (mx4 + (1 : Int32)) c0 c1 c2 c3 c4 c5 k3 T82.heap n0 Z82 Fo82 Fc82 f83_0 hn0 hn6 hi0 hi1 hi2 hi3 hi4 hi5) hZ (hw _ (List.mem_of_getElem? (i := 26) rfl)) (hw _ (List.mem_of_getElem? (i := 11) rfl)) (by decide) (by decide)) q85a q85c (g := (mkF m 190 #[.val (.int p1), .val (.ref b3), .val (.int mx4), .val (.int (mx4 + (1 : Int32))), .val (.ref b43), .val (.ref b79), .unset, .unset] [(.ref b79)])) rfl (by rw [hml]; rfl) (Steps.refl _) (argsL := []) (rest := []) (lenOf pd____I rfl) rfl (by show 2 * 0 + _ ≤ _; exact Nat.le_of_eq rfl) (hb hby at_190) (fun _ _ => ⟨rfl, e82, (by decide : 3 + 1 ≤ _), (by decide : 14 + 6 ≤ _)⟩)
  dsimp only [Pt.U, Pt.locs, Pt.cells, Pt.slots] at X85 l85 y85 z85 st85 hQ85
  subst l85 y85 z85
  obtain ⟨br, kr, rfl, N85q, Kc85, gr85, sr85, Vr85⟩ := hQ85
  have N85 := Fr.app N82 N85q
  have f86_0 := f83_0.keep Kc85 (by simp)
  have f86_1 := f83_1.keep Kc85 (by simp)
  have f86_2 := f83_2.keep Kc85
  have f86_3 := Fo82.keep Kc85 (by simp)
  have f86_4 := Fc82.keep Kc85 (by simp)
  have Z85 : n0 ≤ T85.heap.size := Nat.le_trans Z82 Kc85.1
  have e85 : T85.heap = T85.heap := rfl
  clear pre81 X82 st82 Fo82 Fc82 N82 f83_0 f83_1 f83_2 Z82 e82 q85a q85b q85c N85q Kc85
  obtain ⟨cl87, Ar87, kc87, S87, M87, H87, G87⟩ := id Vr85
  have pre88 : ∀ t, Steps p.tables e below (T85.setTop (mkF m 214 #[.val (.int p1), .val (.ref b3), .val (.int mx4), .val (.int (mx4 + (1 : Int32))), .val (.ref b43), .val (.ref b79), .val (.ref br), .unset] [(.int (0 : Int32)), (.ref b43), (.ref br)])) t → Steps p.tables e below (s₁.setTop (entryFrame m #[(.int p1)] maxLocals)) t := fun t k => pre84 t (by
    show Steps p.tables e below (T82.setTop (mkF m 190 #[.val (.int p1), .val (.ref b3), .val (.int mx4), .val (.int (mx4 + (1 : Int32))), .val (.ref b43), .val (.ref b79), .unset, .unset] [(.ref b79)])) _
    refine st85.trans ?_
    show Steps p.tables e below (T85.setTop (mkF m 193 #[.val (.int p1), .val (.ref b3), .val (.int mx4), .val (.int (mx4 + (1 : Int32))), .val (.ref b43), .val (.ref b79), .unset, .unset] [(.ref br)])) _
    refine XS.astore X85.here hx rfl (hb hby at_193) rfl rfl (l' := #[.val (.int p1), .val (.ref b3), .val (.int mx4), .val (.int (mx4 + (1 : Int32))), .val (.ref b43), .val (.ref b79), .val (.ref br), .unset]) rfl ?_
    show Steps p.tables e below (T85.setTop (mkF m 195 #[.val (.int p1), .val (.ref b3), .val (.int mx4), .val (.int (mx4 + (1 : Int32))), .val (.ref b43), .val (.ref b79), .val (.ref br), .unset] [])) _
    refine XS.aload X85.here hx rfl (hb hby at_195) rfl rfl ?_
    show Steps p.tables e below (T85.setTop (mkF m 197 #[.val (.int p1), .val (.ref b3), .val (.int mx4), .val (.int (mx4 + (1 : Int32))), .val (.ref b43), .val (.ref b79), .val (.ref br), .unset] [(.ref br)])) _
    refine XS.ifnullNo X85.here hx rfl (hb hby at_197) rfl ?_
    show Steps p.tables e below (T85.setTop (mkF m 200 #[.val (.int p1), .val (.ref b3), .val (.int mx4), .val (.int (mx4 + (1 : Int32))), .val (.ref b43), .val (.ref b79), .val (.ref br), .unset] [])) _
    refine XS.aload X85.here hx rfl (hb hby at_200) rfl rfl ?_
    show Steps p.tables e below (T85.setTop (mkF m 202 #[.val (.int p1), .val (.ref b3), .val (.int mx4), .val (.int (mx4 + (1 : Int32))), .val (.ref b43), .val (.ref b79), .val (.ref br), .unset] [(.ref br)])) _
    refine X85.arraylength hx (cell := cl87) (by rw [e85]; exact Ar87.1) (State.isArrayOf_alike hZ.alike Ar87.2.1) (g := (mkF m 202 #[.val (.int p1), .val (.ref b3), .val (.int mx4), .val (.int (mx4 + (1 : Int32))), .val (.ref b43), .val (.ref b79), .val (.ref br), .unset] [(.ref br)])) rfl (rest := []) rfl (hb hby at_202) _ ?_
    rw [len_of S87 M87]
    show Steps p.tables e below (T85.setTop (mkF m 203 #[.val (.int p1), .val (.ref b3), .val (.int mx4), .val (.int (mx4 + (1 : Int32))), .val (.ref b43), .val (.ref b79), .val (.ref br), .unset] [(.int (mx4 + (1 : Int32)))])) _
    refine XS.iloadN X85.here hx rfl (hb hby at_203) rfl ?_
    show Steps p.tables e below (T85.setTop (mkF m 204 #[.val (.int p1), .val (.ref b3), .val (.int mx4), .val (.int (mx4 + (1 : Int32))), .val (.ref b43), .val (.ref b79), .val (.ref br), .unset] [(.int (mx4 + (1 : Int32))), (.int (mx4 + (1 : Int32)))])) _
    refine XS.icmpYes X85.here hx rfl (pc0 := 204) (pc' := 209) rfl (hb hby at_204) rfl (XT.ii_eq_t rfl) (by decide) (by decide) ?_
    show Steps p.tables e below (T85.setTop (mkF m 209 #[.val (.int p1), .val (.ref b3), .val (.int mx4), .val (.int (mx4 + (1 : Int32))), .val (.ref b43), .val (.ref b79), .val (.ref br), .unset] [])) _
    refine XS.aload X85.here hx rfl (hb hby at_209) rfl rfl ?_
    show Steps p.tables e below (T85.setTop (mkF m 211 #[.val (.int p1), .val (.ref b3), .val (.int mx4), .val (.int (mx4 + (1 : Int32))), .val (.ref b43), .val (.ref b79), .val (.ref br), .unset] [(.ref br)])) _
    refine XS.aload X85.here hx rfl (hb hby at_211) rfl rfl ?_
    show Steps p.tables e below (T85.setTop (mkF m 213 #[.val (.int p1), .val (.ref b3), .val (.int mx4), .val (.int (mx4 + (1 : Int32))), .val (.ref b43), .val (.ref b79), .val (.ref br), .unset] [(.ref b43), (.ref br)])) _
    refine XS.iconst X85.here hx rfl (hb hby at_213) ?_
    show Steps p.tables e below (T85.setTop (mkF m 214 #[.val (.int p1), .val (.ref b3), .val (.int mx4), .val (.int (mx4 + (1 : Int32))), .val (.ref b43), .val (.ref b79), .val (.ref br), .unset] [(.int (0 : Int32)), (.ref b43), (.ref br)])) _
    exact k)
  exact rs_0_6 l Z a0 hw ws p1 h0 n0 c0 c1 c2 c3 c4 c5 mx4 f0 f1 f2 f3 f4 f5 b3 k3 b43 k43 br kr b79 Bd hZ hml T85.heap X85 e85 N85 Z85 pre88 f86_0 f86_1 Vr85 ne_b3_b43 ne_b3_b79 ne_b43_b79 g_b3 g_b43 g_b79 hn0 hn6 hi0 hi1 hi2 hi3 hi4 hi5 hf0 hf1 hf2 hf3 hf4 hf5
set_option maxRecDepth 65536 in
set_option maxHeartbeats 40000000 in
theorem rs_0_4 (l : Launch) (Z : State) (a0 : Array Value) (hw : ∀ d ∈ tables_1, d.before a0 Z = true) (ws : List Jvm.Cond) (p1 : Int32) (h0 : Heap) (n0 : Nat) (c0 : Int32) (c1 : Int32) (c2 : Int32) (c3 : Int32) (c4 : Int32) (c5 : Int32) (mx4 : Int32) (f0 : Int32) (f1 : Int32) (f2 : Int32) (f3 : Int32) (b3 : Addr) (k3 : ClassId) (b43 : Addr) (k43 : ClassId) {p e s m below meth c s₁} (Bd : BodyLoose p l x (head1 (Jvm.Cond.code x code maxLocals ret :: ws) room_1) code maxLocals ret e s m #[(.int p1)] below meth c s₁) (hZ : Z.Warmed39 s.vm) (hml : c.maxLocals = 8) {Tc Lc0} (hhc : Heap) (Xc : Stand p l e room_1 s m #[(.int p1)] below meth c Tc Lc0 2 12) (ec : Tc.heap = hhc) (Nc : Fr n0 Lc0) (Zc : n0 ≤ hhc.size) (prec : ∀ t, Steps p.tables e below (Tc.setTop (mkF m 159 #[.val (.int p1), .val (.ref b3), .val (.int mx4), .val (.int (mx4 + (1 : Int32))), .val (.ref b43), .unset, .unset, .unset] [])) t → Steps p.tables e below (s₁.setTop (entryFrame m #[(.int p1)] maxLocals)) t) (fc4_0 : Arv Z hhc b3 k3 .int (6 : Int32) [(.int c0), (.int c1), (.int c2), (.int c3), (.int c4), (.int c5)] (.int (0 : Int32))) (fc4_1 : Arv Z hhc b43 k43 .int (6 : Int32) [(.int f0), (.int f1), (.int f2), (.int f3), (.int (0 : Int32)), (.int (0 : Int32))] (.int (0 : Int32))) (ne_b3_b43 : b3 ≠ b43) (g_b3 : n0 ≤ b3) (g_b43 : n0 ≤ b43) (hn0 : ¬ (mx4 + 1) < 0) (hn6 : (mx4 + 1).toNatClampNeg ≤ 6) (hi0 : ¬ c0 < 0 ∧ c0 < mx4 + 1) (hi1 : ¬ c1 < 0 ∧ c1 < mx4 + 1) (hi2 : ¬ c2 < 0 ∧ c2 < mx4 + 1) (hi3 : ¬ c3 < 0 ∧ c3 < mx4 + 1) (hi4 : ¬ c4 < 0 ∧ c4 < mx4 + 1) (hi5 : ¬ c5 < 0 ∧ c5 < mx4 + 1) (hf0 : own_first c0 c1 c2 c3 c4 c5 0 = f0) (hf1 : own_first c0 c1 c2 c3 c4 c5 1 = f1) (hf2 : own_first c0 c1 c2 c3 c4 c5 2 = f2) (hf3 : own_first c0 c1 c2 c3 c4 c5 3 = f3) :
    ∃ s₂ o, Steps p.tables e below (s₁.setTop (entryFrame m #[(.int p1)] maxLocals)) s₂ ∧ s₂.status = .running ∧ Ended s₂ below o ∧ ∃ v L, o = .returned v ∧ Q_0 Z p1 h0 n0 v s₂.heap L ∧ FrameEnd s o s₂ L room_1.cells room_1.slots := by
  have hx := Bd.exec
  have hby := Bd.bytes
  have hown : s.vm.findClass "com/example/even_odds/evenodds/relation/PartitionFirstStatesPinLaw" = some m.cls := findClass_of_methodNamed Bd.named
  have hnm := (name_of_methodNamed Bd.named Bd.method).1
  have pre68 : ∀ t, Steps p.tables e below (Tc.setTop (mkF m 164 #[.val (.int p1), .val (.ref b3), .val (.int mx4), .val (.int (mx4 + (1 : Int32))), .val (.ref b43), .unset, .unset, .unset] [(.int (4 : Int32)), (.ref b3), (.int (4 : Int32)), (.ref b43)])) t → Steps p.tables e below (s₁.setTop (entryFrame m #[(.int p1)] maxLocals)) t := fun t k => prec t (by
    show Steps p.tables e below (Tc.setTop (mkF m 159 #[.val (.int p1), .val (.ref b3), .val (.int mx4), .val (.int (mx4 + (1 : Int32))), .val (.ref b43), .unset, .unset, .unset] [])) _
    refine XS.aload Xc.here hx rfl (hb hby at_159) rfl rfl ?_
    show Steps p.tables e below (Tc.setTop (mkF m 161 #[.val (.int p1), .val (.ref b3), .val (.int mx4), .val (.int (mx4 + (1 : Int32))), .val (.ref b43), .unset, .unset, .unset] [(.ref b43)])) _
    refine XS.iconst Xc.here hx rfl (hb hby at_161) ?_
    show Steps p.tables e below (Tc.setTop (mkF m 162 #[.val (.int p1), .val (.ref b3), .val (.int mx4), .val (.int (mx4 + (1 : Int32))), .val (.ref b43), .unset, .unset, .unset] [(.int (4 : Int32)), (.ref b43)])) _
    refine XS.aloadN Xc.here hx rfl (hb hby at_162) rfl rfl ?_
    show Steps p.tables e below (Tc.setTop (mkF m 163 #[.val (.int p1), .val (.ref b3), .val (.int mx4), .val (.int (mx4 + (1 : Int32))), .val (.ref b43), .unset, .unset, .unset] [(.ref b3), (.int (4 : Int32)), (.ref b43)])) _
    refine XS.iconst Xc.here hx rfl (hb hby at_163) ?_
    show Steps p.tables e below (Tc.setTop (mkF m 164 #[.val (.int p1), .val (.ref b3), .val (.int mx4), .val (.int (mx4 + (1 : Int32))), .val (.ref b43), .unset, .unset, .unset] [(.int (4 : Int32)), (.ref b3), (.int (4 : Int32)), (.ref b43)])) _
    exact k)
  obtain ⟨_, _, ⟨T69, L69, kk69, nn69⟩, -, X69, ⟨Lc69, hQ69, l69, y69, z69⟩, st69⟩ := Jvm.LawKit.callS Xc hx (y := (⟨"com/example/even_odds/evenodds/relation/PartitionFirstStatesPinLaw", "firstOf", "([II)I"⟩ : MethodName)) hown (mvT hZ (hw _ (List.mem_of_getElem? (i := 5) rfl))) (mvT hZ (hw _ (List.mem_of_getElem? (i := 6) rfl))) (mvT hZ (hw _ (List.mem_of_getElem? (i := 7) rfl))) (mvT hZ (hw _ (List.mem_of_getElem? (i := 8) rfl))) (by decide) (backOf (W := 2) (rm_fo l Z a0 hw [] b3 4 c0 c1 c2 c3 c4 c5 k3 hhc n0 Zc fc4_0) hZ (hw _ (List.mem_of_getElem? (i := 8) rfl)) (hw _ (List.mem_of_getElem? (i := 7) rfl)) (by decide) (by decide)) (g := (mkF m 164 #[.val (.int p1), .val (.ref b3), .val (.int mx4), .val (.int (mx4 + (1 : Int32))), .val (.ref b43), .unset, .unset, .unset] [(.int (4 : Int32)), (.ref b3), (.int (4 : Int32)), (.ref b43)])) rfl (by rw [hml]; rfl) (argsL := [(.ref b3), (.int (4 : Int32))]) (rest := [(.int (4 : Int32)), (.ref b43)]) (lenOf pd___II_I rfl) rfl (by show 2 * 0 + _ ≤ _; exact Nat.le_of_eq rfl) (hb hby at_164) (fun _ _ => ⟨rfl, ec, (by decide : 2 + 0 ≤ _), (by decide : 12 + 0 ≤ _)⟩)
  dsimp only [Pt.U, Pt.locs, Pt.cells, Pt.slots] at X69 l69 y69 z69 st69 hQ69
  subst l69 y69 z69
  obtain ⟨rfl, N69q, eq69⟩ := hQ69
  have N69 := Fr.app Nc N69q
  clear N69q
  obtain ⟨f4, hf4⟩ : ∃ z : Int32, own_first c0 c1 c2 c3 c4 c5 4 = z := ⟨_, rfl⟩
  have pre70 : ∀ t, Steps p.tables e below (T69.setTop (mkF m 167 #[.val (.int p1), .val (.ref b3), .val (.int mx4), .val (.int (mx4 + (1 : Int32))), .val (.ref b43), .unset, .unset, .unset] [(.int f4), (.int (4 : Int32)), (.ref b43)])) t → Steps p.tables e below (s₁.setTop (entryFrame m #[(.int p1)] maxLocals)) t := fun t k => pre68 t (by
    show Steps p.tables e below (Tc.setTop (mkF m 164 #[.val (.int p1), .val (.ref b3), .val (.int mx4), .val (.int (mx4 + (1 : Int32))), .val (.ref b43), .unset, .unset, .unset] [(.int (4 : Int32)), (.ref b3), (.int (4 : Int32)), (.ref b43)])) _
    refine st69 _ ?_
    show Steps p.tables e below (T69.setTop (mkF m 167 #[.val (.int p1), .val (.ref b3), .val (.int mx4), .val (.int (mx4 + (1 : Int32))), .val (.ref b43), .unset, .unset, .unset] [(.int (own_first c0 c1 c2 c3 c4 c5 4)), (.int (4 : Int32)), (.ref b43)])) _
    rw [hf4]
    show Steps p.tables e below (T69.setTop (mkF m 167 #[.val (.int p1), .val (.ref b3), .val (.int mx4), .val (.int (mx4 + (1 : Int32))), .val (.ref b43), .unset, .unset, .unset] [(.int f4), (.int (4 : Int32)), (.ref b43)])) _
    exact k)
  obtain ⟨cl71, Ar71, kc71, S71, M71, H71, G71⟩ := id fc4_1
  have hin71 := inb_of S71 (j := (4 : Int32)) (by decide)
  obtain ⟨T71, h71, X71, e71, W71, st71⟩ := stI X69 hx hZ eq69 Ar71 (j := (4 : Int32)) hin71 (g := (mkF m 167 #[.val (.int p1), .val (.ref b3), .val (.int mx4), .val (.int (mx4 + (1 : Int32))), .val (.ref b43), .unset, .unset, .unset] [(.int f4), (.int (4 : Int32)), (.ref b43)])) rfl rfl (hb hby at_167)
  have V71 : Arv Z h71 b43 k43 .int (6 : Int32) [(.int f0), (.int f1), (.int f2), (.int f3), (.int f4), (.int (0 : Int32))] (.int (0 : Int32)) := Arv.set Ar71 kc71 S71 M71 H71 G71 (v := (.int f4)) rfl W71 4 (by decide) (by simp)
  have N71 := Fr.snoc X71 N69 g_b43
  have f72_0 := fc4_0.other W71 ne_b3_b43
  have Z71 : n0 ≤ h71.size := Nat.le_trans Zc (Keep.of_wr W71).1
  have pre73 : ∀ t, Steps p.tables e below (T71.setTop (mkF m 173 #[.val (.int p1), .val (.ref b3), .val (.int mx4), .val (.int (mx4 + (1 : Int32))), .val (.ref b43), .unset, .unset, .unset] [(.int (5 : Int32)), (.ref b3), (.int (5 : Int32)), (.ref b43)])) t → Steps p.tables e below (s₁.setTop (entryFrame m #[(.int p1)] maxLocals)) t := fun t k => pre70 t (by
    show Steps p.tables e below (T69.setTop (mkF m 167 #[.val (.int p1), .val (.ref b3), .val (.int mx4), .val (.int (mx4 + (1 : Int32))), .val (.ref b43), .unset, .unset, .unset] [(.int f4), (.int (4 : Int32)), (.ref b43)])) _
    refine st71 _ ?_
    show Steps p.tables e below (T71.setTop (mkF m 168 #[.val (.int p1), .val (.ref b3), .val (.int mx4), .val (.int (mx4 + (1 : Int32))), .val (.ref b43), .unset, .unset, .unset] [])) _
    refine XS.aload X71.here hx rfl (hb hby at_168) rfl rfl ?_
    show Steps p.tables e below (T71.setTop (mkF m 170 #[.val (.int p1), .val (.ref b3), .val (.int mx4), .val (.int (mx4 + (1 : Int32))), .val (.ref b43), .unset, .unset, .unset] [(.ref b43)])) _
    refine XS.iconst X71.here hx rfl (hb hby at_170) ?_
    show Steps p.tables e below (T71.setTop (mkF m 171 #[.val (.int p1), .val (.ref b3), .val (.int mx4), .val (.int (mx4 + (1 : Int32))), .val (.ref b43), .unset, .unset, .unset] [(.int (5 : Int32)), (.ref b43)])) _
    refine XS.aloadN X71.here hx rfl (hb hby at_171) rfl rfl ?_
    show Steps p.tables e below (T71.setTop (mkF m 172 #[.val (.int p1), .val (.ref b3), .val (.int mx4), .val (.int (mx4 + (1 : Int32))), .val (.ref b43), .unset, .unset, .unset] [(.ref b3), (.int (5 : Int32)), (.ref b43)])) _
    refine XS.iconst X71.here hx rfl (hb hby at_172) ?_
    show Steps p.tables e below (T71.setTop (mkF m 173 #[.val (.int p1), .val (.ref b3), .val (.int mx4), .val (.int (mx4 + (1 : Int32))), .val (.ref b43), .unset, .unset, .unset] [(.int (5 : Int32)), (.ref b3), (.int (5 : Int32)), (.ref b43)])) _
    exact k)
  obtain ⟨_, _, ⟨T74, L74, kk74, nn74⟩, -, X74, ⟨Lc74, hQ74, l74, y74, z74⟩, st74⟩ := Jvm.LawKit.callS X71 hx (y := (⟨"com/example/even_odds/evenodds/relation/PartitionFirstStatesPinLaw", "firstOf", "([II)I"⟩ : MethodName)) hown (mvT hZ (hw _ (List.mem_of_getElem? (i := 5) rfl))) (mvT hZ (hw _ (List.mem_of_getElem? (i := 6) rfl))) (mvT hZ (hw _ (List.mem_of_getElem? (i := 7) rfl))) (mvT hZ (hw _ (List.mem_of_getElem? (i := 8) rfl))) (by decide) (backOf (W := 2) (rm_fo l Z a0 hw [] b3 5 c0 c1 c2 c3 c4 c5 k3 h71 n0 Z71 f72_0) hZ (hw _ (List.mem_of_getElem? (i := 8) rfl)) (hw _ (List.mem_of_getElem? (i := 7) rfl)) (by decide) (by decide)) (g := (mkF m 173 #[.val (.int p1), .val (.ref b3), .val (.int mx4), .val (.int (mx4 + (1 : Int32))), .val (.ref b43), .unset, .unset, .unset] [(.int (5 : Int32)), (.ref b3), (.int (5 : Int32)), (.ref b43)])) rfl (by rw [hml]; rfl) (argsL := [(.ref b3), (.int (5 : Int32))]) (rest := [(.int (5 : Int32)), (.ref b43)]) (lenOf pd___II_I rfl) rfl (by show 2 * 0 + _ ≤ _; exact Nat.le_of_eq rfl) (hb hby at_173) (fun _ _ => ⟨rfl, e71, (by decide : 2 + 0 ≤ _), (by decide : 12 + 0 ≤ _)⟩)
  dsimp only [Pt.U, Pt.locs, Pt.cells, Pt.slots] at X74 l74 y74 z74 st74 hQ74
  subst l74 y74 z74
  obtain ⟨rfl, N74q, eq74⟩ := hQ74
  have N74 := Fr.app N71 N74q
  clear pre68 X69 st69 eq69 N69 pre70 Ar71 kc71 S71 M71 H71 G71 hin71 X71 e71 W71 st71 N71 N74q
  obtain ⟨f5, hf5⟩ : ∃ z : Int32, own_first c0 c1 c2 c3 c4 c5 5 = z := ⟨_, rfl⟩
  have pre75 : ∀ t, Steps p.tables e below (T74.setTop (mkF m 176 #[.val (.int p1), .val (.ref b3), .val (.int mx4), .val (.int (mx4 + (1 : Int32))), .val (.ref b43), .unset, .unset, .unset] [(.int f5), (.int (5 : Int32)), (.ref b43)])) t → Steps p.tables e below (s₁.setTop (entryFrame m #[(.int p1)] maxLocals)) t := fun t k => pre73 t (by
    show Steps p.tables e below (T71.setTop (mkF m 173 #[.val (.int p1), .val (.ref b3), .val (.int mx4), .val (.int (mx4 + (1 : Int32))), .val (.ref b43), .unset, .unset, .unset] [(.int (5 : Int32)), (.ref b3), (.int (5 : Int32)), (.ref b43)])) _
    refine st74 _ ?_
    show Steps p.tables e below (T74.setTop (mkF m 176 #[.val (.int p1), .val (.ref b3), .val (.int mx4), .val (.int (mx4 + (1 : Int32))), .val (.ref b43), .unset, .unset, .unset] [(.int (own_first c0 c1 c2 c3 c4 c5 5)), (.int (5 : Int32)), (.ref b43)])) _
    rw [hf5]
    show Steps p.tables e below (T74.setTop (mkF m 176 #[.val (.int p1), .val (.ref b3), .val (.int mx4), .val (.int (mx4 + (1 : Int32))), .val (.ref b43), .unset, .unset, .unset] [(.int f5), (.int (5 : Int32)), (.ref b43)])) _
    exact k)
  obtain ⟨cl76, Ar76, kc76, S76, M76, H76, G76⟩ := id V71
  have hin76 := inb_of S76 (j := (5 : Int32)) (by decide)
  obtain ⟨T76, h76, X76, e76, W76, st76⟩ := stI X74 hx hZ eq74 Ar76 (j := (5 : Int32)) hin76 (g := (mkF m 176 #[.val (.int p1), .val (.ref b3), .val (.int mx4), .val (.int (mx4 + (1 : Int32))), .val (.ref b43), .unset, .unset, .unset] [(.int f5), (.int (5 : Int32)), (.ref b43)])) rfl rfl (hb hby at_176)
  have V76 : Arv Z h76 b43 k43 .int (6 : Int32) [(.int f0), (.int f1), (.int f2), (.int f3), (.int f4), (.int f5)] (.int (0 : Int32)) := Arv.set Ar76 kc76 S76 M76 H76 G76 (v := (.int f5)) rfl W76 5 (by decide) (by simp)
  have N76 := Fr.snoc X76 N74 g_b43
  have f77_0 := f72_0.other W76 ne_b3_b43
  have Z76 : n0 ≤ h76.size := Nat.le_trans Z71 (Keep.of_wr W76).1
  have pre78 : ∀ t, Steps p.tables e below (T76.setTop (mkF m 177 #[.val (.int p1), .val (.ref b3), .val (.int mx4), .val (.int (mx4 + (1 : Int32))), .val (.ref b43), .unset, .unset, .unset] [])) t → Steps p.tables e below (s₁.setTop (entryFrame m #[(.int p1)] maxLocals)) t := fun t k => pre75 t (by
    show Steps p.tables e below (T74.setTop (mkF m 176 #[.val (.int p1), .val (.ref b3), .val (.int mx4), .val (.int (mx4 + (1 : Int32))), .val (.ref b43), .unset, .unset, .unset] [(.int f5), (.int (5 : Int32)), (.ref b43)])) _
    refine st76 _ ?_
    show Steps p.tables e below (T76.setTop (mkF m 177 #[.val (.int p1), .val (.ref b3), .val (.int mx4), .val (.int (mx4 + (1 : Int32))), .val (.ref b43), .unset, .unset, .unset] [])) _
    exact k)
  exact rs_0_5 l Z a0 hw ws p1 h0 n0 c0 c1 c2 c3 c4 c5 mx4 f0 f1 f2 f3 f4 f5 b3 k3 b43 k43 Bd hZ hml h76 X76 e76 N76 Z76 pre78 f77_0 V76 ne_b3_b43 g_b3 g_b43 hn0 hn6 hi0 hi1 hi2 hi3 hi4 hi5 hf0 hf1 hf2 hf3 hf4 hf5
set_option maxRecDepth 65536 in
set_option maxHeartbeats 40000000 in
theorem rs_0_3 (l : Launch) (Z : State) (a0 : Array Value) (hw : ∀ d ∈ tables_1, d.before a0 Z = true) (ws : List Jvm.Cond) (p1 : Int32) (h0 : Heap) (n0 : Nat) (c0 : Int32) (c1 : Int32) (c2 : Int32) (c3 : Int32) (c4 : Int32) (c5 : Int32) (mx4 : Int32) (f0 : Int32) (f1 : Int32) (b3 : Addr) (k3 : ClassId) (b43 : Addr) (k43 : ClassId) {p e s m below meth c s₁} (Bd : BodyLoose p l x (head1 (Jvm.Cond.code x code maxLocals ret :: ws) room_1) code maxLocals ret e s m #[(.int p1)] below meth c s₁) (hZ : Z.Warmed39 s.vm) (hml : c.maxLocals = 8) {Tc Lc0} (hhc : Heap) (Xc : Stand p l e room_1 s m #[(.int p1)] below meth c Tc Lc0 2 12) (ec : Tc.heap = hhc) (Nc : Fr n0 Lc0) (Zc : n0 ≤ hhc.size) (prec : ∀ t, Steps p.tables e below (Tc.setTop (mkF m 141 #[.val (.int p1), .val (.ref b3), .val (.int mx4), .val (.int (mx4 + (1 : Int32))), .val (.ref b43), .unset, .unset, .unset] [])) t → Steps p.tables e below (s₁.setTop (entryFrame m #[(.int p1)] maxLocals)) t) (fc3_0 : Arv Z hhc b3 k3 .int (6 : Int32) [(.int c0), (.int c1), (.int c2), (.int c3), (.int c4), (.int c5)] (.int (0 : Int32))) (fc3_1 : Arv Z hhc b43 k43 .int (6 : Int32) [(.int f0), (.int f1), (.int (0 : Int32)), (.int (0 : Int32)), (.int (0 : Int32)), (.int (0 : Int32))] (.int (0 : Int32))) (ne_b3_b43 : b3 ≠ b43) (g_b3 : n0 ≤ b3) (g_b43 : n0 ≤ b43) (hn0 : ¬ (mx4 + 1) < 0) (hn6 : (mx4 + 1).toNatClampNeg ≤ 6) (hi0 : ¬ c0 < 0 ∧ c0 < mx4 + 1) (hi1 : ¬ c1 < 0 ∧ c1 < mx4 + 1) (hi2 : ¬ c2 < 0 ∧ c2 < mx4 + 1) (hi3 : ¬ c3 < 0 ∧ c3 < mx4 + 1) (hi4 : ¬ c4 < 0 ∧ c4 < mx4 + 1) (hi5 : ¬ c5 < 0 ∧ c5 < mx4 + 1) (hf0 : own_first c0 c1 c2 c3 c4 c5 0 = f0) (hf1 : own_first c0 c1 c2 c3 c4 c5 1 = f1) :
    ∃ s₂ o, Steps p.tables e below (s₁.setTop (entryFrame m #[(.int p1)] maxLocals)) s₂ ∧ s₂.status = .running ∧ Ended s₂ below o ∧ ∃ v L, o = .returned v ∧ Q_0 Z p1 h0 n0 v s₂.heap L ∧ FrameEnd s o s₂ L room_1.cells room_1.slots := by
  have hx := Bd.exec
  have hby := Bd.bytes
  have hown : s.vm.findClass "com/example/even_odds/evenodds/relation/PartitionFirstStatesPinLaw" = some m.cls := findClass_of_methodNamed Bd.named
  have hnm := (name_of_methodNamed Bd.named Bd.method).1
  have pre57 : ∀ t, Steps p.tables e below (Tc.setTop (mkF m 146 #[.val (.int p1), .val (.ref b3), .val (.int mx4), .val (.int (mx4 + (1 : Int32))), .val (.ref b43), .unset, .unset, .unset] [(.int (2 : Int32)), (.ref b3), (.int (2 : Int32)), (.ref b43)])) t → Steps p.tables e below (s₁.setTop (entryFrame m #[(.int p1)] maxLocals)) t := fun t k => prec t (by
    show Steps p.tables e below (Tc.setTop (mkF m 141 #[.val (.int p1), .val (.ref b3), .val (.int mx4), .val (.int (mx4 + (1 : Int32))), .val (.ref b43), .unset, .unset, .unset] [])) _
    refine XS.aload Xc.here hx rfl (hb hby at_141) rfl rfl ?_
    show Steps p.tables e below (Tc.setTop (mkF m 143 #[.val (.int p1), .val (.ref b3), .val (.int mx4), .val (.int (mx4 + (1 : Int32))), .val (.ref b43), .unset, .unset, .unset] [(.ref b43)])) _
    refine XS.iconst Xc.here hx rfl (hb hby at_143) ?_
    show Steps p.tables e below (Tc.setTop (mkF m 144 #[.val (.int p1), .val (.ref b3), .val (.int mx4), .val (.int (mx4 + (1 : Int32))), .val (.ref b43), .unset, .unset, .unset] [(.int (2 : Int32)), (.ref b43)])) _
    refine XS.aloadN Xc.here hx rfl (hb hby at_144) rfl rfl ?_
    show Steps p.tables e below (Tc.setTop (mkF m 145 #[.val (.int p1), .val (.ref b3), .val (.int mx4), .val (.int (mx4 + (1 : Int32))), .val (.ref b43), .unset, .unset, .unset] [(.ref b3), (.int (2 : Int32)), (.ref b43)])) _
    refine XS.iconst Xc.here hx rfl (hb hby at_145) ?_
    show Steps p.tables e below (Tc.setTop (mkF m 146 #[.val (.int p1), .val (.ref b3), .val (.int mx4), .val (.int (mx4 + (1 : Int32))), .val (.ref b43), .unset, .unset, .unset] [(.int (2 : Int32)), (.ref b3), (.int (2 : Int32)), (.ref b43)])) _
    exact k)
  obtain ⟨_, _, ⟨T58, L58, kk58, nn58⟩, -, X58, ⟨Lc58, hQ58, l58, y58, z58⟩, st58⟩ := Jvm.LawKit.callS Xc hx (y := (⟨"com/example/even_odds/evenodds/relation/PartitionFirstStatesPinLaw", "firstOf", "([II)I"⟩ : MethodName)) hown (mvT hZ (hw _ (List.mem_of_getElem? (i := 5) rfl))) (mvT hZ (hw _ (List.mem_of_getElem? (i := 6) rfl))) (mvT hZ (hw _ (List.mem_of_getElem? (i := 7) rfl))) (mvT hZ (hw _ (List.mem_of_getElem? (i := 8) rfl))) (by decide) (backOf (W := 2) (rm_fo l Z a0 hw [] b3 2 c0 c1 c2 c3 c4 c5 k3 hhc n0 Zc fc3_0) hZ (hw _ (List.mem_of_getElem? (i := 8) rfl)) (hw _ (List.mem_of_getElem? (i := 7) rfl)) (by decide) (by decide)) (g := (mkF m 146 #[.val (.int p1), .val (.ref b3), .val (.int mx4), .val (.int (mx4 + (1 : Int32))), .val (.ref b43), .unset, .unset, .unset] [(.int (2 : Int32)), (.ref b3), (.int (2 : Int32)), (.ref b43)])) rfl (by rw [hml]; rfl) (argsL := [(.ref b3), (.int (2 : Int32))]) (rest := [(.int (2 : Int32)), (.ref b43)]) (lenOf pd___II_I rfl) rfl (by show 2 * 0 + _ ≤ _; exact Nat.le_of_eq rfl) (hb hby at_146) (fun _ _ => ⟨rfl, ec, (by decide : 2 + 0 ≤ _), (by decide : 12 + 0 ≤ _)⟩)
  dsimp only [Pt.U, Pt.locs, Pt.cells, Pt.slots] at X58 l58 y58 z58 st58 hQ58
  subst l58 y58 z58
  obtain ⟨rfl, N58q, eq58⟩ := hQ58
  have N58 := Fr.app Nc N58q
  clear N58q
  obtain ⟨f2, hf2⟩ : ∃ z : Int32, own_first c0 c1 c2 c3 c4 c5 2 = z := ⟨_, rfl⟩
  have pre59 : ∀ t, Steps p.tables e below (T58.setTop (mkF m 149 #[.val (.int p1), .val (.ref b3), .val (.int mx4), .val (.int (mx4 + (1 : Int32))), .val (.ref b43), .unset, .unset, .unset] [(.int f2), (.int (2 : Int32)), (.ref b43)])) t → Steps p.tables e below (s₁.setTop (entryFrame m #[(.int p1)] maxLocals)) t := fun t k => pre57 t (by
    show Steps p.tables e below (Tc.setTop (mkF m 146 #[.val (.int p1), .val (.ref b3), .val (.int mx4), .val (.int (mx4 + (1 : Int32))), .val (.ref b43), .unset, .unset, .unset] [(.int (2 : Int32)), (.ref b3), (.int (2 : Int32)), (.ref b43)])) _
    refine st58 _ ?_
    show Steps p.tables e below (T58.setTop (mkF m 149 #[.val (.int p1), .val (.ref b3), .val (.int mx4), .val (.int (mx4 + (1 : Int32))), .val (.ref b43), .unset, .unset, .unset] [(.int (own_first c0 c1 c2 c3 c4 c5 2)), (.int (2 : Int32)), (.ref b43)])) _
    rw [hf2]
    show Steps p.tables e below (T58.setTop (mkF m 149 #[.val (.int p1), .val (.ref b3), .val (.int mx4), .val (.int (mx4 + (1 : Int32))), .val (.ref b43), .unset, .unset, .unset] [(.int f2), (.int (2 : Int32)), (.ref b43)])) _
    exact k)
  obtain ⟨cl60, Ar60, kc60, S60, M60, H60, G60⟩ := id fc3_1
  have hin60 := inb_of S60 (j := (2 : Int32)) (by decide)
  obtain ⟨T60, h60, X60, e60, W60, st60⟩ := stI X58 hx hZ eq58 Ar60 (j := (2 : Int32)) hin60 (g := (mkF m 149 #[.val (.int p1), .val (.ref b3), .val (.int mx4), .val (.int (mx4 + (1 : Int32))), .val (.ref b43), .unset, .unset, .unset] [(.int f2), (.int (2 : Int32)), (.ref b43)])) rfl rfl (hb hby at_149)
  have V60 : Arv Z h60 b43 k43 .int (6 : Int32) [(.int f0), (.int f1), (.int f2), (.int (0 : Int32)), (.int (0 : Int32)), (.int (0 : Int32))] (.int (0 : Int32)) := Arv.set Ar60 kc60 S60 M60 H60 G60 (v := (.int f2)) rfl W60 2 (by decide) (by simp)
  have N60 := Fr.snoc X60 N58 g_b43
  have f61_0 := fc3_0.other W60 ne_b3_b43
  have Z60 : n0 ≤ h60.size := Nat.le_trans Zc (Keep.of_wr W60).1
  have pre62 : ∀ t, Steps p.tables e below (T60.setTop (mkF m 155 #[.val (.int p1), .val (.ref b3), .val (.int mx4), .val (.int (mx4 + (1 : Int32))), .val (.ref b43), .unset, .unset, .unset] [(.int (3 : Int32)), (.ref b3), (.int (3 : Int32)), (.ref b43)])) t → Steps p.tables e below (s₁.setTop (entryFrame m #[(.int p1)] maxLocals)) t := fun t k => pre59 t (by
    show Steps p.tables e below (T58.setTop (mkF m 149 #[.val (.int p1), .val (.ref b3), .val (.int mx4), .val (.int (mx4 + (1 : Int32))), .val (.ref b43), .unset, .unset, .unset] [(.int f2), (.int (2 : Int32)), (.ref b43)])) _
    refine st60 _ ?_
    show Steps p.tables e below (T60.setTop (mkF m 150 #[.val (.int p1), .val (.ref b3), .val (.int mx4), .val (.int (mx4 + (1 : Int32))), .val (.ref b43), .unset, .unset, .unset] [])) _
    refine XS.aload X60.here hx rfl (hb hby at_150) rfl rfl ?_
    show Steps p.tables e below (T60.setTop (mkF m 152 #[.val (.int p1), .val (.ref b3), .val (.int mx4), .val (.int (mx4 + (1 : Int32))), .val (.ref b43), .unset, .unset, .unset] [(.ref b43)])) _
    refine XS.iconst X60.here hx rfl (hb hby at_152) ?_
    show Steps p.tables e below (T60.setTop (mkF m 153 #[.val (.int p1), .val (.ref b3), .val (.int mx4), .val (.int (mx4 + (1 : Int32))), .val (.ref b43), .unset, .unset, .unset] [(.int (3 : Int32)), (.ref b43)])) _
    refine XS.aloadN X60.here hx rfl (hb hby at_153) rfl rfl ?_
    show Steps p.tables e below (T60.setTop (mkF m 154 #[.val (.int p1), .val (.ref b3), .val (.int mx4), .val (.int (mx4 + (1 : Int32))), .val (.ref b43), .unset, .unset, .unset] [(.ref b3), (.int (3 : Int32)), (.ref b43)])) _
    refine XS.iconst X60.here hx rfl (hb hby at_154) ?_
    show Steps p.tables e below (T60.setTop (mkF m 155 #[.val (.int p1), .val (.ref b3), .val (.int mx4), .val (.int (mx4 + (1 : Int32))), .val (.ref b43), .unset, .unset, .unset] [(.int (3 : Int32)), (.ref b3), (.int (3 : Int32)), (.ref b43)])) _
    exact k)
  obtain ⟨_, _, ⟨T63, L63, kk63, nn63⟩, -, X63, ⟨Lc63, hQ63, l63, y63, z63⟩, st63⟩ := Jvm.LawKit.callS X60 hx (y := (⟨"com/example/even_odds/evenodds/relation/PartitionFirstStatesPinLaw", "firstOf", "([II)I"⟩ : MethodName)) hown (mvT hZ (hw _ (List.mem_of_getElem? (i := 5) rfl))) (mvT hZ (hw _ (List.mem_of_getElem? (i := 6) rfl))) (mvT hZ (hw _ (List.mem_of_getElem? (i := 7) rfl))) (mvT hZ (hw _ (List.mem_of_getElem? (i := 8) rfl))) (by decide) (backOf (W := 2) (rm_fo l Z a0 hw [] b3 3 c0 c1 c2 c3 c4 c5 k3 h60 n0 Z60 f61_0) hZ (hw _ (List.mem_of_getElem? (i := 8) rfl)) (hw _ (List.mem_of_getElem? (i := 7) rfl)) (by decide) (by decide)) (g := (mkF m 155 #[.val (.int p1), .val (.ref b3), .val (.int mx4), .val (.int (mx4 + (1 : Int32))), .val (.ref b43), .unset, .unset, .unset] [(.int (3 : Int32)), (.ref b3), (.int (3 : Int32)), (.ref b43)])) rfl (by rw [hml]; rfl) (argsL := [(.ref b3), (.int (3 : Int32))]) (rest := [(.int (3 : Int32)), (.ref b43)]) (lenOf pd___II_I rfl) rfl (by show 2 * 0 + _ ≤ _; exact Nat.le_of_eq rfl) (hb hby at_155) (fun _ _ => ⟨rfl, e60, (by decide : 2 + 0 ≤ _), (by decide : 12 + 0 ≤ _)⟩)
  dsimp only [Pt.U, Pt.locs, Pt.cells, Pt.slots] at X63 l63 y63 z63 st63 hQ63
  subst l63 y63 z63
  obtain ⟨rfl, N63q, eq63⟩ := hQ63
  have N63 := Fr.app N60 N63q
  clear pre57 X58 st58 eq58 N58 pre59 Ar60 kc60 S60 M60 H60 G60 hin60 X60 e60 W60 st60 N60 N63q
  obtain ⟨f3, hf3⟩ : ∃ z : Int32, own_first c0 c1 c2 c3 c4 c5 3 = z := ⟨_, rfl⟩
  have pre64 : ∀ t, Steps p.tables e below (T63.setTop (mkF m 158 #[.val (.int p1), .val (.ref b3), .val (.int mx4), .val (.int (mx4 + (1 : Int32))), .val (.ref b43), .unset, .unset, .unset] [(.int f3), (.int (3 : Int32)), (.ref b43)])) t → Steps p.tables e below (s₁.setTop (entryFrame m #[(.int p1)] maxLocals)) t := fun t k => pre62 t (by
    show Steps p.tables e below (T60.setTop (mkF m 155 #[.val (.int p1), .val (.ref b3), .val (.int mx4), .val (.int (mx4 + (1 : Int32))), .val (.ref b43), .unset, .unset, .unset] [(.int (3 : Int32)), (.ref b3), (.int (3 : Int32)), (.ref b43)])) _
    refine st63 _ ?_
    show Steps p.tables e below (T63.setTop (mkF m 158 #[.val (.int p1), .val (.ref b3), .val (.int mx4), .val (.int (mx4 + (1 : Int32))), .val (.ref b43), .unset, .unset, .unset] [(.int (own_first c0 c1 c2 c3 c4 c5 3)), (.int (3 : Int32)), (.ref b43)])) _
    rw [hf3]
    show Steps p.tables e below (T63.setTop (mkF m 158 #[.val (.int p1), .val (.ref b3), .val (.int mx4), .val (.int (mx4 + (1 : Int32))), .val (.ref b43), .unset, .unset, .unset] [(.int f3), (.int (3 : Int32)), (.ref b43)])) _
    exact k)
  obtain ⟨cl65, Ar65, kc65, S65, M65, H65, G65⟩ := id V60
  have hin65 := inb_of S65 (j := (3 : Int32)) (by decide)
  obtain ⟨T65, h65, X65, e65, W65, st65⟩ := stI X63 hx hZ eq63 Ar65 (j := (3 : Int32)) hin65 (g := (mkF m 158 #[.val (.int p1), .val (.ref b3), .val (.int mx4), .val (.int (mx4 + (1 : Int32))), .val (.ref b43), .unset, .unset, .unset] [(.int f3), (.int (3 : Int32)), (.ref b43)])) rfl rfl (hb hby at_158)
  have V65 : Arv Z h65 b43 k43 .int (6 : Int32) [(.int f0), (.int f1), (.int f2), (.int f3), (.int (0 : Int32)), (.int (0 : Int32))] (.int (0 : Int32)) := Arv.set Ar65 kc65 S65 M65 H65 G65 (v := (.int f3)) rfl W65 3 (by decide) (by simp)
  have N65 := Fr.snoc X65 N63 g_b43
  have f66_0 := f61_0.other W65 ne_b3_b43
  have Z65 : n0 ≤ h65.size := Nat.le_trans Z60 (Keep.of_wr W65).1
  have pre67 : ∀ t, Steps p.tables e below (T65.setTop (mkF m 159 #[.val (.int p1), .val (.ref b3), .val (.int mx4), .val (.int (mx4 + (1 : Int32))), .val (.ref b43), .unset, .unset, .unset] [])) t → Steps p.tables e below (s₁.setTop (entryFrame m #[(.int p1)] maxLocals)) t := fun t k => pre64 t (by
    show Steps p.tables e below (T63.setTop (mkF m 158 #[.val (.int p1), .val (.ref b3), .val (.int mx4), .val (.int (mx4 + (1 : Int32))), .val (.ref b43), .unset, .unset, .unset] [(.int f3), (.int (3 : Int32)), (.ref b43)])) _
    refine st65 _ ?_
    show Steps p.tables e below (T65.setTop (mkF m 159 #[.val (.int p1), .val (.ref b3), .val (.int mx4), .val (.int (mx4 + (1 : Int32))), .val (.ref b43), .unset, .unset, .unset] [])) _
    exact k)
  exact rs_0_4 l Z a0 hw ws p1 h0 n0 c0 c1 c2 c3 c4 c5 mx4 f0 f1 f2 f3 b3 k3 b43 k43 Bd hZ hml h65 X65 e65 N65 Z65 pre67 f66_0 V65 ne_b3_b43 g_b3 g_b43 hn0 hn6 hi0 hi1 hi2 hi3 hi4 hi5 hf0 hf1 hf2 hf3
set_option maxRecDepth 65536 in
set_option maxHeartbeats 40000000 in
theorem rs_0_2 (l : Launch) (Z : State) (a0 : Array Value) (hw : ∀ d ∈ tables_1, d.before a0 Z = true) (ws : List Jvm.Cond) (p1 : Int32) (h0 : Heap) (n0 : Nat) (c0 : Int32) (c1 : Int32) (c2 : Int32) (c3 : Int32) (c4 : Int32) (c5 : Int32) (mx4 : Int32) (b3 : Addr) (k3 : ClassId) {p e s m below meth c s₁} (Bd : BodyLoose p l x (head1 (Jvm.Cond.code x code maxLocals ret :: ws) room_1) code maxLocals ret e s m #[(.int p1)] below meth c s₁) (hZ : Z.Warmed39 s.vm) (hml : c.maxLocals = 8) {Tc Lc0} (hhc : Heap) (Xc : Stand p l e room_1 s m #[(.int p1)] below meth c Tc Lc0 1 6) (ec : Tc.heap = hhc) (Nc : Fr n0 Lc0) (Zc : n0 ≤ hhc.size) (prec : ∀ t, Steps p.tables e below (Tc.setTop (mkF m 112 #[.val (.int p1), .val (.ref b3), .unset, .unset, .unset, .unset, .unset, .unset] [(.int mx4)])) t → Steps p.tables e below (s₁.setTop (entryFrame m #[(.int p1)] maxLocals)) t) (fc2_0 : Arv Z hhc b3 k3 .int (6 : Int32) [(.int c0), (.int c1), (.int c2), (.int c3), (.int c4), (.int c5)] (.int (0 : Int32))) (g_b3 : n0 ≤ b3) (hn0 : ¬ (mx4 + 1) < 0) (hn6 : (mx4 + 1).toNatClampNeg ≤ 6) (hi0 : ¬ c0 < 0 ∧ c0 < mx4 + 1) (hi1 : ¬ c1 < 0 ∧ c1 < mx4 + 1) (hi2 : ¬ c2 < 0 ∧ c2 < mx4 + 1) (hi3 : ¬ c3 < 0 ∧ c3 < mx4 + 1) (hi4 : ¬ c4 < 0 ∧ c4 < mx4 + 1) (hi5 : ¬ c5 < 0 ∧ c5 < mx4 + 1) :
    ∃ s₂ o, Steps p.tables e below (s₁.setTop (entryFrame m #[(.int p1)] maxLocals)) s₂ ∧ s₂.status = .running ∧ Ended s₂ below o ∧ ∃ v L, o = .returned v ∧ Q_0 Z p1 h0 n0 v s₂.heap L ∧ FrameEnd s o s₂ L room_1.cells room_1.slots := by
  have hx := Bd.exec
  have hby := Bd.bytes
  have hown : s.vm.findClass "com/example/even_odds/evenodds/relation/PartitionFirstStatesPinLaw" = some m.cls := findClass_of_methodNamed Bd.named
  have hnm := (name_of_methodNamed Bd.named Bd.method).1
  have pre42 : ∀ t, Steps p.tables e below (Tc.setTop (mkF m 119 #[.val (.int p1), .val (.ref b3), .val (.int mx4), .val (.int (mx4 + (1 : Int32))), .unset, .unset, .unset, .unset] [(.int (6 : Int32))])) t → Steps p.tables e below (s₁.setTop (entryFrame m #[(.int p1)] maxLocals)) t := fun t k => prec t (by
    show Steps p.tables e below (Tc.setTop (mkF m 112 #[.val (.int p1), .val (.ref b3), .unset, .unset, .unset, .unset, .unset, .unset] [(.int mx4)])) _
    refine XS.istoreN Xc.here hx rfl (hb hby at_112) rfl (l' := #[.val (.int p1), .val (.ref b3), .val (.int mx4), .unset, .unset, .unset, .unset, .unset]) rfl ?_
    show Steps p.tables e below (Tc.setTop (mkF m 113 #[.val (.int p1), .val (.ref b3), .val (.int mx4), .unset, .unset, .unset, .unset, .unset] [])) _
    refine XS.iloadN Xc.here hx rfl (hb hby at_113) rfl ?_
    show Steps p.tables e below (Tc.setTop (mkF m 114 #[.val (.int p1), .val (.ref b3), .val (.int mx4), .unset, .unset, .unset, .unset, .unset] [(.int mx4)])) _
    refine XS.iconst Xc.here hx rfl (hb hby at_114) ?_
    show Steps p.tables e below (Tc.setTop (mkF m 115 #[.val (.int p1), .val (.ref b3), .val (.int mx4), .unset, .unset, .unset, .unset, .unset] [(.int (1 : Int32)), (.int mx4)])) _
    refine XS.iadd Xc.here hx rfl (hb hby at_115) rfl ?_
    show Steps p.tables e below (Tc.setTop (mkF m 116 #[.val (.int p1), .val (.ref b3), .val (.int mx4), .unset, .unset, .unset, .unset, .unset] [(.int (mx4 + (1 : Int32)))])) _
    refine XS.istoreN Xc.here hx rfl (hb hby at_116) rfl (l' := #[.val (.int p1), .val (.ref b3), .val (.int mx4), .val (.int (mx4 + (1 : Int32))), .unset, .unset, .unset, .unset]) rfl ?_
    show Steps p.tables e below (Tc.setTop (mkF m 117 #[.val (.int p1), .val (.ref b3), .val (.int mx4), .val (.int (mx4 + (1 : Int32))), .unset, .unset, .unset, .unset] [])) _
    refine XS.bipush Xc.here hx rfl (hb hby at_117) ?_
    show Steps p.tables e below (Tc.setTop (mkF m 119 #[.val (.int p1), .val (.ref b3), .val (.int mx4), .val (.int (mx4 + (1 : Int32))), .unset, .unset, .unset, .unset] [(.int (6 : Int32))])) _
    exact k)
  obtain ⟨T43, h43, k43, X43, e43, E43, A43, st43⟩ := newP Xc hx hZ (hw _ (List.mem_of_getElem? (i := 0) rfl)) ec (g := (mkF m 119 #[.val (.int p1), .val (.ref b3), .val (.int mx4), .val (.int (mx4 + (1 : Int32))), .unset, .unset, .unset, .unset] [(.int (6 : Int32))])) rfl (hb hby at_119) rfl (by decide) (cap := 6) (by decide) (by decide) (by decide) (by decide)
  obtain ⟨b43, g43⟩ : ∃ z, z = hhc.size := ⟨_, rfl⟩
  rw [← g43] at A43 st43
  have ne_b3_b43 : b3 ≠ b43 := Nat.ne_of_lt (Nat.lt_of_lt_of_eq fc2_0.lt g43.symm)
  have g_b43 : n0 ≤ b43 := Nat.le_trans Zc (Nat.le_of_eq g43.symm)
  have Z43 : n0 ≤ h43.size := Nat.le_trans Zc E43.1
  have f44_0 := fc2_0.ext E43
  have V43 := Arv.new A43 (by decide)
  have V45 : Arv Z h43 b43 k43 .int (6 : Int32) [(.int (0 : Int32)), (.int (0 : Int32)), (.int (0 : Int32)), (.int (0 : Int32)), (.int (0 : Int32)), (.int (0 : Int32))] (.int (0 : Int32)) := V43.pad (pad_rep [] (.int (0 : Int32)) 6)
  have pre46 : ∀ t, Steps p.tables e below (T43.setTop (mkF m 128 #[.val (.int p1), .val (.ref b3), .val (.int mx4), .val (.int (mx4 + (1 : Int32))), .val (.ref b43), .unset, .unset, .unset] [(.int (0 : Int32)), (.ref b3), (.int (0 : Int32)), (.ref b43)])) t → Steps p.tables e below (s₁.setTop (entryFrame m #[(.int p1)] maxLocals)) t := fun t k => pre42 t (by
    show Steps p.tables e below (Tc.setTop (mkF m 119 #[.val (.int p1), .val (.ref b3), .val (.int mx4), .val (.int (mx4 + (1 : Int32))), .unset, .unset, .unset, .unset] [(.int (6 : Int32))])) _
    refine st43 _ ?_
    show Steps p.tables e below (T43.setTop (mkF m 121 #[.val (.int p1), .val (.ref b3), .val (.int mx4), .val (.int (mx4 + (1 : Int32))), .unset, .unset, .unset, .unset] [(.ref b43)])) _
    refine XS.astore X43.here hx rfl (hb hby at_121) rfl rfl (l' := #[.val (.int p1), .val (.ref b3), .val (.int mx4), .val (.int (mx4 + (1 : Int32))), .val (.ref b43), .unset, .unset, .unset]) rfl ?_
    show Steps p.tables e below (T43.setTop (mkF m 123 #[.val (.int p1), .val (.ref b3), .val (.int mx4), .val (.int (mx4 + (1 : Int32))), .val (.ref b43), .unset, .unset, .unset] [])) _
    refine XS.aload X43.here hx rfl (hb hby at_123) rfl rfl ?_
    show Steps p.tables e below (T43.setTop (mkF m 125 #[.val (.int p1), .val (.ref b3), .val (.int mx4), .val (.int (mx4 + (1 : Int32))), .val (.ref b43), .unset, .unset, .unset] [(.ref b43)])) _
    refine XS.iconst X43.here hx rfl (hb hby at_125) ?_
    show Steps p.tables e below (T43.setTop (mkF m 126 #[.val (.int p1), .val (.ref b3), .val (.int mx4), .val (.int (mx4 + (1 : Int32))), .val (.ref b43), .unset, .unset, .unset] [(.int (0 : Int32)), (.ref b43)])) _
    refine XS.aloadN X43.here hx rfl (hb hby at_126) rfl rfl ?_
    show Steps p.tables e below (T43.setTop (mkF m 127 #[.val (.int p1), .val (.ref b3), .val (.int mx4), .val (.int (mx4 + (1 : Int32))), .val (.ref b43), .unset, .unset, .unset] [(.ref b3), (.int (0 : Int32)), (.ref b43)])) _
    refine XS.iconst X43.here hx rfl (hb hby at_127) ?_
    show Steps p.tables e below (T43.setTop (mkF m 128 #[.val (.int p1), .val (.ref b3), .val (.int mx4), .val (.int (mx4 + (1 : Int32))), .val (.ref b43), .unset, .unset, .unset] [(.int (0 : Int32)), (.ref b3), (.int (0 : Int32)), (.ref b43)])) _
    exact k)
  obtain ⟨_, _, ⟨T47, L47, kk47, nn47⟩, -, X47, ⟨Lc47, hQ47, l47, y47, z47⟩, st47⟩ := Jvm.LawKit.callS X43 hx (y := (⟨"com/example/even_odds/evenodds/relation/PartitionFirstStatesPinLaw", "firstOf", "([II)I"⟩ : MethodName)) hown (mvT hZ (hw _ (List.mem_of_getElem? (i := 5) rfl))) (mvT hZ (hw _ (List.mem_of_getElem? (i := 6) rfl))) (mvT hZ (hw _ (List.mem_of_getElem? (i := 7) rfl))) (mvT hZ (hw _ (List.mem_of_getElem? (i := 8) rfl))) (by decide) (backOf (W := 2) (rm_fo l Z a0 hw [] b3 0 c0 c1 c2 c3 c4 c5 k3 h43 n0 Z43 f44_0) hZ (hw _ (List.mem_of_getElem? (i := 8) rfl)) (hw _ (List.mem_of_getElem? (i := 7) rfl)) (by decide) (by decide)) (g := (mkF m 128 #[.val (.int p1), .val (.ref b3), .val (.int mx4), .val (.int (mx4 + (1 : Int32))), .val (.ref b43), .unset, .unset, .unset] [(.int (0 : Int32)), (.ref b3), (.int (0 : Int32)), (.ref b43)])) rfl (by rw [hml]; rfl) (argsL := [(.ref b3), (.int (0 : Int32))]) (rest := [(.int (0 : Int32)), (.ref b43)]) (lenOf pd___II_I rfl) rfl (by show 2 * 0 + _ ≤ _; exact Nat.le_of_eq rfl) (hb hby at_128) (fun _ _ => ⟨rfl, e43, (by decide : 2 + 0 ≤ _), (by decide : 12 + 0 ≤ _)⟩)
  dsimp only [Pt.U, Pt.locs, Pt.cells, Pt.slots] at X47 l47 y47 z47 st47 hQ47
  subst l47 y47 z47
  obtain ⟨rfl, N47q, eq47⟩ := hQ47
  have N47 := Fr.app Nc N47q
  clear pre42 X43 e43 E43 A43 st43 V43 N47q
  obtain ⟨f0, hf0⟩ : ∃ z : Int32, own_first c0 c1 c2 c3 c4 c5 0 = z := ⟨_, rfl⟩
  have pre48 : ∀ t, Steps p.tables e below (T47.setTop (mkF m 131 #[.val (.int p1), .val (.ref b3), .val (.int mx4), .val (.int (mx4 + (1 : Int32))), .val (.ref b43), .unset, .unset, .unset] [(.int f0), (.int (0 : Int32)), (.ref b43)])) t → Steps p.tables e below (s₁.setTop (entryFrame m #[(.int p1)] maxLocals)) t := fun t k => pre46 t (by
    show Steps p.tables e below (T43.setTop (mkF m 128 #[.val (.int p1), .val (.ref b3), .val (.int mx4), .val (.int (mx4 + (1 : Int32))), .val (.ref b43), .unset, .unset, .unset] [(.int (0 : Int32)), (.ref b3), (.int (0 : Int32)), (.ref b43)])) _
    refine st47 _ ?_
    show Steps p.tables e below (T47.setTop (mkF m 131 #[.val (.int p1), .val (.ref b3), .val (.int mx4), .val (.int (mx4 + (1 : Int32))), .val (.ref b43), .unset, .unset, .unset] [(.int (own_first c0 c1 c2 c3 c4 c5 0)), (.int (0 : Int32)), (.ref b43)])) _
    rw [hf0]
    show Steps p.tables e below (T47.setTop (mkF m 131 #[.val (.int p1), .val (.ref b3), .val (.int mx4), .val (.int (mx4 + (1 : Int32))), .val (.ref b43), .unset, .unset, .unset] [(.int f0), (.int (0 : Int32)), (.ref b43)])) _
    exact k)
  obtain ⟨cl49, Ar49, kc49, S49, M49, H49, G49⟩ := id V45
  have hin49 := inb_of S49 (j := (0 : Int32)) (by decide)
  obtain ⟨T49, h49, X49, e49, W49, st49⟩ := stI X47 hx hZ eq47 Ar49 (j := (0 : Int32)) hin49 (g := (mkF m 131 #[.val (.int p1), .val (.ref b3), .val (.int mx4), .val (.int (mx4 + (1 : Int32))), .val (.ref b43), .unset, .unset, .unset] [(.int f0), (.int (0 : Int32)), (.ref b43)])) rfl rfl (hb hby at_131)
  have V49 : Arv Z h49 b43 k43 .int (6 : Int32) [(.int f0), (.int (0 : Int32)), (.int (0 : Int32)), (.int (0 : Int32)), (.int (0 : Int32)), (.int (0 : Int32))] (.int (0 : Int32)) := Arv.set Ar49 kc49 S49 M49 H49 G49 (v := (.int f0)) rfl W49 0 (by decide) (by simp)
  have N49 := Fr.snoc X49 N47 g_b43
  have f50_0 := f44_0.other W49 ne_b3_b43
  have Z49 : n0 ≤ h49.size := Nat.le_trans Z43 (Keep.of_wr W49).1
  have pre51 : ∀ t, Steps p.tables e below (T49.setTop (mkF m 137 #[.val (.int p1), .val (.ref b3), .val (.int mx4), .val (.int (mx4 + (1 : Int32))), .val (.ref b43), .unset, .unset, .unset] [(.int (1 : Int32)), (.ref b3), (.int (1 : Int32)), (.ref b43)])) t → Steps p.tables e below (s₁.setTop (entryFrame m #[(.int p1)] maxLocals)) t := fun t k => pre48 t (by
    show Steps p.tables e below (T47.setTop (mkF m 131 #[.val (.int p1), .val (.ref b3), .val (.int mx4), .val (.int (mx4 + (1 : Int32))), .val (.ref b43), .unset, .unset, .unset] [(.int f0), (.int (0 : Int32)), (.ref b43)])) _
    refine st49 _ ?_
    show Steps p.tables e below (T49.setTop (mkF m 132 #[.val (.int p1), .val (.ref b3), .val (.int mx4), .val (.int (mx4 + (1 : Int32))), .val (.ref b43), .unset, .unset, .unset] [])) _
    refine XS.aload X49.here hx rfl (hb hby at_132) rfl rfl ?_
    show Steps p.tables e below (T49.setTop (mkF m 134 #[.val (.int p1), .val (.ref b3), .val (.int mx4), .val (.int (mx4 + (1 : Int32))), .val (.ref b43), .unset, .unset, .unset] [(.ref b43)])) _
    refine XS.iconst X49.here hx rfl (hb hby at_134) ?_
    show Steps p.tables e below (T49.setTop (mkF m 135 #[.val (.int p1), .val (.ref b3), .val (.int mx4), .val (.int (mx4 + (1 : Int32))), .val (.ref b43), .unset, .unset, .unset] [(.int (1 : Int32)), (.ref b43)])) _
    refine XS.aloadN X49.here hx rfl (hb hby at_135) rfl rfl ?_
    show Steps p.tables e below (T49.setTop (mkF m 136 #[.val (.int p1), .val (.ref b3), .val (.int mx4), .val (.int (mx4 + (1 : Int32))), .val (.ref b43), .unset, .unset, .unset] [(.ref b3), (.int (1 : Int32)), (.ref b43)])) _
    refine XS.iconst X49.here hx rfl (hb hby at_136) ?_
    show Steps p.tables e below (T49.setTop (mkF m 137 #[.val (.int p1), .val (.ref b3), .val (.int mx4), .val (.int (mx4 + (1 : Int32))), .val (.ref b43), .unset, .unset, .unset] [(.int (1 : Int32)), (.ref b3), (.int (1 : Int32)), (.ref b43)])) _
    exact k)
  obtain ⟨_, _, ⟨T52, L52, kk52, nn52⟩, -, X52, ⟨Lc52, hQ52, l52, y52, z52⟩, st52⟩ := Jvm.LawKit.callS X49 hx (y := (⟨"com/example/even_odds/evenodds/relation/PartitionFirstStatesPinLaw", "firstOf", "([II)I"⟩ : MethodName)) hown (mvT hZ (hw _ (List.mem_of_getElem? (i := 5) rfl))) (mvT hZ (hw _ (List.mem_of_getElem? (i := 6) rfl))) (mvT hZ (hw _ (List.mem_of_getElem? (i := 7) rfl))) (mvT hZ (hw _ (List.mem_of_getElem? (i := 8) rfl))) (by decide) (backOf (W := 2) (rm_fo l Z a0 hw [] b3 1 c0 c1 c2 c3 c4 c5 k3 h49 n0 Z49 f50_0) hZ (hw _ (List.mem_of_getElem? (i := 8) rfl)) (hw _ (List.mem_of_getElem? (i := 7) rfl)) (by decide) (by decide)) (g := (mkF m 137 #[.val (.int p1), .val (.ref b3), .val (.int mx4), .val (.int (mx4 + (1 : Int32))), .val (.ref b43), .unset, .unset, .unset] [(.int (1 : Int32)), (.ref b3), (.int (1 : Int32)), (.ref b43)])) rfl (by rw [hml]; rfl) (argsL := [(.ref b3), (.int (1 : Int32))]) (rest := [(.int (1 : Int32)), (.ref b43)]) (lenOf pd___II_I rfl) rfl (by show 2 * 0 + _ ≤ _; exact Nat.le_of_eq rfl) (hb hby at_137) (fun _ _ => ⟨rfl, e49, (by decide : 2 + 0 ≤ _), (by decide : 12 + 0 ≤ _)⟩)
  dsimp only [Pt.U, Pt.locs, Pt.cells, Pt.slots] at X52 l52 y52 z52 st52 hQ52
  subst l52 y52 z52
  obtain ⟨rfl, N52q, eq52⟩ := hQ52
  have N52 := Fr.app N49 N52q
  clear Z43 f44_0 V45 pre46 X47 st47 eq47 N47 pre48 Ar49 kc49 S49 M49 H49 G49 hin49 X49 e49 W49 st49 N49 N52q
  obtain ⟨f1, hf1⟩ : ∃ z : Int32, own_first c0 c1 c2 c3 c4 c5 1 = z := ⟨_, rfl⟩
  have pre53 : ∀ t, Steps p.tables e below (T52.setTop (mkF m 140 #[.val (.int p1), .val (.ref b3), .val (.int mx4), .val (.int (mx4 + (1 : Int32))), .val (.ref b43), .unset, .unset, .unset] [(.int f1), (.int (1 : Int32)), (.ref b43)])) t → Steps p.tables e below (s₁.setTop (entryFrame m #[(.int p1)] maxLocals)) t := fun t k => pre51 t (by
    show Steps p.tables e below (T49.setTop (mkF m 137 #[.val (.int p1), .val (.ref b3), .val (.int mx4), .val (.int (mx4 + (1 : Int32))), .val (.ref b43), .unset, .unset, .unset] [(.int (1 : Int32)), (.ref b3), (.int (1 : Int32)), (.ref b43)])) _
    refine st52 _ ?_
    show Steps p.tables e below (T52.setTop (mkF m 140 #[.val (.int p1), .val (.ref b3), .val (.int mx4), .val (.int (mx4 + (1 : Int32))), .val (.ref b43), .unset, .unset, .unset] [(.int (own_first c0 c1 c2 c3 c4 c5 1)), (.int (1 : Int32)), (.ref b43)])) _
    rw [hf1]
    show Steps p.tables e below (T52.setTop (mkF m 140 #[.val (.int p1), .val (.ref b3), .val (.int mx4), .val (.int (mx4 + (1 : Int32))), .val (.ref b43), .unset, .unset, .unset] [(.int f1), (.int (1 : Int32)), (.ref b43)])) _
    exact k)
  obtain ⟨cl54, Ar54, kc54, S54, M54, H54, G54⟩ := id V49
  have hin54 := inb_of S54 (j := (1 : Int32)) (by decide)
  obtain ⟨T54, h54, X54, e54, W54, st54⟩ := stI X52 hx hZ eq52 Ar54 (j := (1 : Int32)) hin54 (g := (mkF m 140 #[.val (.int p1), .val (.ref b3), .val (.int mx4), .val (.int (mx4 + (1 : Int32))), .val (.ref b43), .unset, .unset, .unset] [(.int f1), (.int (1 : Int32)), (.ref b43)])) rfl rfl (hb hby at_140)
  have V54 : Arv Z h54 b43 k43 .int (6 : Int32) [(.int f0), (.int f1), (.int (0 : Int32)), (.int (0 : Int32)), (.int (0 : Int32)), (.int (0 : Int32))] (.int (0 : Int32)) := Arv.set Ar54 kc54 S54 M54 H54 G54 (v := (.int f1)) rfl W54 1 (by decide) (by simp)
  have N54 := Fr.snoc X54 N52 g_b43
  have f55_0 := f50_0.other W54 ne_b3_b43
  have Z54 : n0 ≤ h54.size := Nat.le_trans Z49 (Keep.of_wr W54).1
  have pre56 : ∀ t, Steps p.tables e below (T54.setTop (mkF m 141 #[.val (.int p1), .val (.ref b3), .val (.int mx4), .val (.int (mx4 + (1 : Int32))), .val (.ref b43), .unset, .unset, .unset] [])) t → Steps p.tables e below (s₁.setTop (entryFrame m #[(.int p1)] maxLocals)) t := fun t k => pre53 t (by
    show Steps p.tables e below (T52.setTop (mkF m 140 #[.val (.int p1), .val (.ref b3), .val (.int mx4), .val (.int (mx4 + (1 : Int32))), .val (.ref b43), .unset, .unset, .unset] [(.int f1), (.int (1 : Int32)), (.ref b43)])) _
    refine st54 _ ?_
    show Steps p.tables e below (T54.setTop (mkF m 141 #[.val (.int p1), .val (.ref b3), .val (.int mx4), .val (.int (mx4 + (1 : Int32))), .val (.ref b43), .unset, .unset, .unset] [])) _
    exact k)
  exact rs_0_3 l Z a0 hw ws p1 h0 n0 c0 c1 c2 c3 c4 c5 mx4 f0 f1 b3 k3 b43 k43 Bd hZ hml h54 X54 e54 N54 Z54 pre56 f55_0 V54 ne_b3_b43 g_b3 g_b43 hn0 hn6 hi0 hi1 hi2 hi3 hi4 hi5 hf0 hf1
set_option maxRecDepth 65536 in
set_option maxHeartbeats 40000000 in
theorem rs_0_1 (l : Launch) (Z : State) (a0 : Array Value) (hw : ∀ d ∈ tables_1, d.before a0 Z = true) (ws : List Jvm.Cond) (p1 : Int32) (h0 : Heap) (n0 : Nat) (c0 : Int32) (c1 : Int32) (c2 : Int32) (c3 : Int32) (c4 : Int32) (c5 : Int32) (b3 : Addr) (k3 : ClassId) {p e s m below meth c s₁} (Bd : BodyLoose p l x (head1 (Jvm.Cond.code x code maxLocals ret :: ws) room_1) code maxLocals ret e s m #[(.int p1)] below meth c s₁) (hZ : Z.Warmed39 s.vm) (hml : c.maxLocals = 8) {Tc Lc0} (hhc : Heap) (Xc : Stand p l e room_1 s m #[(.int p1)] below meth c Tc Lc0 1 6) (ec : Tc.heap = hhc) (Nc : Fr n0 Lc0) (Zc : n0 ≤ hhc.size) (prec : ∀ t, Steps p.tables e below (Tc.setTop (mkF m 79 #[.val (.int p1), .val (.ref b3), .unset, .unset, .unset, .unset, .unset, .unset] [])) t → Steps p.tables e below (s₁.setTop (entryFrame m #[(.int p1)] maxLocals)) t) (fc1_0 : Arv Z hhc b3 k3 .int (6 : Int32) [(.int c0), (.int c1), (.int c2), (.int c3), (.int c4), (.int c5)] (.int (0 : Int32))) (g_b3 : n0 ≤ b3) (l0 : ¬ c0 < 0 ∧ c0 < 6) (l1 : ¬ c1 < 0 ∧ c1 < 6) (l2 : ¬ c2 < 0 ∧ c2 < 6) (l3 : ¬ c3 < 0 ∧ c3 < 6) (l4 : ¬ c4 < 0 ∧ c4 < 6) (l5 : ¬ c5 < 0 ∧ c5 < 6) :
    ∃ s₂ o, Steps p.tables e below (s₁.setTop (entryFrame m #[(.int p1)] maxLocals)) s₂ ∧ s₂.status = .running ∧ Ended s₂ below o ∧ ∃ v L, o = .returned v ∧ Q_0 Z p1 h0 n0 v s₂.heap L ∧ FrameEnd s o s₂ L room_1.cells room_1.slots := by
  have hx := Bd.exec
  have hby := Bd.bytes
  have hown : s.vm.findClass "com/example/even_odds/evenodds/relation/PartitionFirstStatesPinLaw" = some m.cls := findClass_of_methodNamed Bd.named
  have hnm := (name_of_methodNamed Bd.named Bd.method).1
  obtain ⟨cl25, Ar25, kc25, S25, M25, H25, G25⟩ := id fc1_0
  have hin25 := inb_of S25 (j := (0 : Int32)) (by decide)
  have hat25 : cl25.slots[((0 : Int32)).toNatClampNeg]? = some (.int c0) := H25.at hin25 rfl
  obtain ⟨cl26, Ar26, kc26, S26, M26, H26, G26⟩ := id fc1_0
  have hin26 := inb_of S26 (j := (1 : Int32)) (by decide)
  have hat26 : cl26.slots[((1 : Int32)).toNatClampNeg]? = some (.int c1) := H26.at hin26 rfl
  have pre27 : ∀ t, Steps p.tables e below (Tc.setTop (mkF m 85 #[.val (.int p1), .val (.ref b3), .unset, .unset, .unset, .unset, .unset, .unset] [(.int c1), (.int c0)])) t → Steps p.tables e below (s₁.setTop (entryFrame m #[(.int p1)] maxLocals)) t := fun t k => prec t (by
    show Steps p.tables e below (Tc.setTop (mkF m 79 #[.val (.int p1), .val (.ref b3), .unset, .unset, .unset, .unset, .unset, .unset] [])) _
    refine XS.aloadN Xc.here hx rfl (hb hby at_79) rfl rfl ?_
    show Steps p.tables e below (Tc.setTop (mkF m 80 #[.val (.int p1), .val (.ref b3), .unset, .unset, .unset, .unset, .unset, .unset] [(.ref b3)])) _
    refine XS.iconst Xc.here hx rfl (hb hby at_80) ?_
    show Steps p.tables e below (Tc.setTop (mkF m 81 #[.val (.int p1), .val (.ref b3), .unset, .unset, .unset, .unset, .unset, .unset] [(.int (0 : Int32)), (.ref b3)])) _
    refine Xc.iaload hx (j := (0 : Int32)) (v := (.int c0)) (by rw [ec]; exact Ar25.1) (State.isArrayOf_alike hZ.alike Ar25.2.1) Ar25.2.2 hin25 hat25 (g := (mkF m 81 #[.val (.int p1), .val (.ref b3), .unset, .unset, .unset, .unset, .unset, .unset] [(.int (0 : Int32)), (.ref b3)])) rfl rfl (hb hby at_81) _ ?_
    show Steps p.tables e below (Tc.setTop (mkF m 82 #[.val (.int p1), .val (.ref b3), .unset, .unset, .unset, .unset, .unset, .unset] [(.int c0)])) _
    refine XS.aloadN Xc.here hx rfl (hb hby at_82) rfl rfl ?_
    show Steps p.tables e below (Tc.setTop (mkF m 83 #[.val (.int p1), .val (.ref b3), .unset, .unset, .unset, .unset, .unset, .unset] [(.ref b3), (.int c0)])) _
    refine XS.iconst Xc.here hx rfl (hb hby at_83) ?_
    show Steps p.tables e below (Tc.setTop (mkF m 84 #[.val (.int p1), .val (.ref b3), .unset, .unset, .unset, .unset, .unset, .unset] [(.int (1 : Int32)), (.ref b3), (.int c0)])) _
    refine Xc.iaload hx (j := (1 : Int32)) (v := (.int c1)) (by rw [ec]; exact Ar26.1) (State.isArrayOf_alike hZ.alike Ar26.2.1) Ar26.2.2 hin26 hat26 (g := (mkF m 84 #[.val (.int p1), .val (.ref b3), .unset, .unset, .unset, .unset, .unset, .unset] [(.int (1 : Int32)), (.ref b3), (.int c0)])) rfl rfl (hb hby at_84) _ ?_
    show Steps p.tables e below (Tc.setTop (mkF m 85 #[.val (.int p1), .val (.ref b3), .unset, .unset, .unset, .unset, .unset, .unset] [(.int c1), (.int c0)])) _
    exact k)
  obtain ⟨_, _, ⟨T28, L28, kk28, nn28⟩, -, X28, ⟨Lc28, hQ28, l28, y28, z28⟩, st28⟩ := Jvm.LawKit.callS Xc hx (y := (⟨"java/lang/Math", "max", "(II)I"⟩ : MethodName)) hown (mvT hZ (hw _ (List.mem_of_getElem? (i := 1) rfl))) (mvT hZ (hw _ (List.mem_of_getElem? (i := 2) rfl))) (mvT hZ (hw _ (List.mem_of_getElem? (i := 3) rfl))) (mvT hZ (hw _ (List.mem_of_getElem? (i := 4) rfl))) (by decide) (backOf (W := 0) (rm_max l Z a0 hw [] c0 c1 hhc n0 Zc ) hZ (hw _ (List.mem_of_getElem? (i := 4) rfl)) (hw _ (List.mem_of_getElem? (i := 3) rfl)) (by decide) (by decide)) (g := (mkF m 85 #[.val (.int p1), .val (.ref b3), .unset, .unset, .unset, .unset, .unset, .unset] [(.int c1), (.int c0)])) rfl (by rw [hml]; rfl) (argsL := [(.int c0), (.int c1)]) (rest := []) (lenOf pd__II_I rfl) rfl (by show 2 * 0 + _ ≤ _; exact Nat.le_of_eq rfl) (hb hby at_85) (fun _ _ => ⟨rfl, ec, (by decide : 1 + 0 ≤ _), (by decide : 6 + 0 ≤ _)⟩)
  dsimp only [Pt.U, Pt.locs, Pt.cells, Pt.slots] at X28 l28 y28 z28 st28 hQ28
  subst l28 y28 z28
  obtain ⟨rfl, N28q, eq28⟩ := hQ28
  have N28 := Fr.app Nc N28q
  clear Ar25 kc25 S25 M25 H25 G25 hin25 hat25 Ar26 kc26 S26 M26 H26 G26 hin26 hat26 N28q
  obtain ⟨mx0, hmx0⟩ : ∃ z : Int32, own_max c0 c1 = z := ⟨_, rfl⟩
  obtain ⟨cl29, Ar29, kc29, S29, M29, H29, G29⟩ := id fc1_0
  have hin29 := inb_of S29 (j := (2 : Int32)) (by decide)
  have hat29 : cl29.slots[((2 : Int32)).toNatClampNeg]? = some (.int c2) := H29.at hin29 rfl
  obtain ⟨cl30, Ar30, kc30, S30, M30, H30, G30⟩ := id fc1_0
  have hin30 := inb_of S30 (j := (3 : Int32)) (by decide)
  have hat30 : cl30.slots[((3 : Int32)).toNatClampNeg]? = some (.int c3) := H30.at hin30 rfl
  have pre31 : ∀ t, Steps p.tables e below (T28.setTop (mkF m 94 #[.val (.int p1), .val (.ref b3), .unset, .unset, .unset, .unset, .unset, .unset] [(.int c3), (.int c2), (.int mx0)])) t → Steps p.tables e below (s₁.setTop (entryFrame m #[(.int p1)] maxLocals)) t := fun t k => pre27 t (by
    show Steps p.tables e below (Tc.setTop (mkF m 85 #[.val (.int p1), .val (.ref b3), .unset, .unset, .unset, .unset, .unset, .unset] [(.int c1), (.int c0)])) _
    refine st28 _ ?_
    show Steps p.tables e below (T28.setTop (mkF m 88 #[.val (.int p1), .val (.ref b3), .unset, .unset, .unset, .unset, .unset, .unset] [(.int (own_max c0 c1))])) _
    rw [hmx0]
    show Steps p.tables e below (T28.setTop (mkF m 88 #[.val (.int p1), .val (.ref b3), .unset, .unset, .unset, .unset, .unset, .unset] [(.int mx0)])) _
    refine XS.aloadN X28.here hx rfl (hb hby at_88) rfl rfl ?_
    show Steps p.tables e below (T28.setTop (mkF m 89 #[.val (.int p1), .val (.ref b3), .unset, .unset, .unset, .unset, .unset, .unset] [(.ref b3), (.int mx0)])) _
    refine XS.iconst X28.here hx rfl (hb hby at_89) ?_
    show Steps p.tables e below (T28.setTop (mkF m 90 #[.val (.int p1), .val (.ref b3), .unset, .unset, .unset, .unset, .unset, .unset] [(.int (2 : Int32)), (.ref b3), (.int mx0)])) _
    refine X28.iaload hx (j := (2 : Int32)) (v := (.int c2)) (by rw [eq28]; exact Ar29.1) (State.isArrayOf_alike hZ.alike Ar29.2.1) Ar29.2.2 hin29 hat29 (g := (mkF m 90 #[.val (.int p1), .val (.ref b3), .unset, .unset, .unset, .unset, .unset, .unset] [(.int (2 : Int32)), (.ref b3), (.int mx0)])) rfl rfl (hb hby at_90) _ ?_
    show Steps p.tables e below (T28.setTop (mkF m 91 #[.val (.int p1), .val (.ref b3), .unset, .unset, .unset, .unset, .unset, .unset] [(.int c2), (.int mx0)])) _
    refine XS.aloadN X28.here hx rfl (hb hby at_91) rfl rfl ?_
    show Steps p.tables e below (T28.setTop (mkF m 92 #[.val (.int p1), .val (.ref b3), .unset, .unset, .unset, .unset, .unset, .unset] [(.ref b3), (.int c2), (.int mx0)])) _
    refine XS.iconst X28.here hx rfl (hb hby at_92) ?_
    show Steps p.tables e below (T28.setTop (mkF m 93 #[.val (.int p1), .val (.ref b3), .unset, .unset, .unset, .unset, .unset, .unset] [(.int (3 : Int32)), (.ref b3), (.int c2), (.int mx0)])) _
    refine X28.iaload hx (j := (3 : Int32)) (v := (.int c3)) (by rw [eq28]; exact Ar30.1) (State.isArrayOf_alike hZ.alike Ar30.2.1) Ar30.2.2 hin30 hat30 (g := (mkF m 93 #[.val (.int p1), .val (.ref b3), .unset, .unset, .unset, .unset, .unset, .unset] [(.int (3 : Int32)), (.ref b3), (.int c2), (.int mx0)])) rfl rfl (hb hby at_93) _ ?_
    show Steps p.tables e below (T28.setTop (mkF m 94 #[.val (.int p1), .val (.ref b3), .unset, .unset, .unset, .unset, .unset, .unset] [(.int c3), (.int c2), (.int mx0)])) _
    exact k)
  obtain ⟨_, _, ⟨T32, L32, kk32, nn32⟩, -, X32, ⟨Lc32, hQ32, l32, y32, z32⟩, st32⟩ := Jvm.LawKit.callS X28 hx (y := (⟨"java/lang/Math", "max", "(II)I"⟩ : MethodName)) hown (mvT hZ (hw _ (List.mem_of_getElem? (i := 1) rfl))) (mvT hZ (hw _ (List.mem_of_getElem? (i := 2) rfl))) (mvT hZ (hw _ (List.mem_of_getElem? (i := 3) rfl))) (mvT hZ (hw _ (List.mem_of_getElem? (i := 4) rfl))) (by decide) (backOf (W := 1) (rm_max l Z a0 hw [] c2 c3 hhc n0 Zc ) hZ (hw _ (List.mem_of_getElem? (i := 4) rfl)) (hw _ (List.mem_of_getElem? (i := 3) rfl)) (by decide) (by decide)) (g := (mkF m 94 #[.val (.int p1), .val (.ref b3), .unset, .unset, .unset, .unset, .unset, .unset] [(.int c3), (.int c2), (.int mx0)])) rfl (by rw [hml]; rfl) (argsL := [(.int c2), (.int c3)]) (rest := [(.int mx0)]) (lenOf pd__II_I rfl) rfl (by show 2 * 0 + _ ≤ _; exact Nat.le_of_eq rfl) (hb hby at_94) (fun _ _ => ⟨rfl, eq28, (by decide : 1 + 0 ≤ _), (by decide : 6 + 0 ≤ _)⟩)
  dsimp only [Pt.U, Pt.locs, Pt.cells, Pt.slots] at X32 l32 y32 z32 st32 hQ32
  subst l32 y32 z32
  obtain ⟨rfl, N32q, eq32⟩ := hQ32
  have N32 := Fr.app N28 N32q
  clear pre27 X28 st28 eq28 N28 Ar29 kc29 S29 M29 H29 G29 hin29 hat29 Ar30 kc30 S30 M30 H30 G30 hin30 hat30 N32q
  obtain ⟨mx1, hmx1⟩ : ∃ z : Int32, own_max c2 c3 = z := ⟨_, rfl⟩
  have pre33 : ∀ t, Steps p.tables e below (T32.setTop (mkF m 97 #[.val (.int p1), .val (.ref b3), .unset, .unset, .unset, .unset, .unset, .unset] [(.int mx1), (.int mx0)])) t → Steps p.tables e below (s₁.setTop (entryFrame m #[(.int p1)] maxLocals)) t := fun t k => pre31 t (by
    show Steps p.tables e below (T28.setTop (mkF m 94 #[.val (.int p1), .val (.ref b3), .unset, .unset, .unset, .unset, .unset, .unset] [(.int c3), (.int c2), (.int mx0)])) _
    refine st32 _ ?_
    show Steps p.tables e below (T32.setTop (mkF m 97 #[.val (.int p1), .val (.ref b3), .unset, .unset, .unset, .unset, .unset, .unset] [(.int (own_max c2 c3)), (.int mx0)])) _
    rw [hmx1]
    show Steps p.tables e below (T32.setTop (mkF m 97 #[.val (.int p1), .val (.ref b3), .unset, .unset, .unset, .unset, .unset, .unset] [(.int mx1), (.int mx0)])) _
    exact k)
  obtain ⟨_, _, ⟨T34, L34, kk34, nn34⟩, -, X34, ⟨Lc34, hQ34, l34, y34, z34⟩, st34⟩ := Jvm.LawKit.callS X32 hx (y := (⟨"java/lang/Math", "max", "(II)I"⟩ : MethodName)) hown (mvT hZ (hw _ (List.mem_of_getElem? (i := 1) rfl))) (mvT hZ (hw _ (List.mem_of_getElem? (i := 2) rfl))) (mvT hZ (hw _ (List.mem_of_getElem? (i := 3) rfl))) (mvT hZ (hw _ (List.mem_of_getElem? (i := 4) rfl))) (by decide) (backOf (W := 0) (rm_max l Z a0 hw [] mx0 mx1 hhc n0 Zc ) hZ (hw _ (List.mem_of_getElem? (i := 4) rfl)) (hw _ (List.mem_of_getElem? (i := 3) rfl)) (by decide) (by decide)) (g := (mkF m 97 #[.val (.int p1), .val (.ref b3), .unset, .unset, .unset, .unset, .unset, .unset] [(.int mx1), (.int mx0)])) rfl (by rw [hml]; rfl) (argsL := [(.int mx0), (.int mx1)]) (rest := []) (lenOf pd__II_I rfl) rfl (by show 2 * 0 + _ ≤ _; exact Nat.le_of_eq rfl) (hb hby at_97) (fun _ _ => ⟨rfl, eq32, (by decide : 1 + 0 ≤ _), (by decide : 6 + 0 ≤ _)⟩)
  dsimp only [Pt.U, Pt.locs, Pt.cells, Pt.slots] at X34 l34 y34 z34 st34 hQ34
  subst l34 y34 z34
  obtain ⟨rfl, N34q, eq34⟩ := hQ34
  have N34 := Fr.app N32 N34q
  clear pre31 X32 st32 eq32 N32 N34q
  obtain ⟨mx2, hmx2⟩ : ∃ z : Int32, own_max mx0 mx1 = z := ⟨_, rfl⟩
  obtain ⟨cl35, Ar35, kc35, S35, M35, H35, G35⟩ := id fc1_0
  have hin35 := inb_of S35 (j := (4 : Int32)) (by decide)
  have hat35 : cl35.slots[((4 : Int32)).toNatClampNeg]? = some (.int c4) := H35.at hin35 rfl
  obtain ⟨cl36, Ar36, kc36, S36, M36, H36, G36⟩ := id fc1_0
  have hin36 := inb_of S36 (j := (5 : Int32)) (by decide)
  have hat36 : cl36.slots[((5 : Int32)).toNatClampNeg]? = some (.int c5) := H36.at hin36 rfl
  have pre37 : ∀ t, Steps p.tables e below (T34.setTop (mkF m 106 #[.val (.int p1), .val (.ref b3), .unset, .unset, .unset, .unset, .unset, .unset] [(.int c5), (.int c4), (.int mx2)])) t → Steps p.tables e below (s₁.setTop (entryFrame m #[(.int p1)] maxLocals)) t := fun t k => pre33 t (by
    show Steps p.tables e below (T32.setTop (mkF m 97 #[.val (.int p1), .val (.ref b3), .unset, .unset, .unset, .unset, .unset, .unset] [(.int mx1), (.int mx0)])) _
    refine st34 _ ?_
    show Steps p.tables e below (T34.setTop (mkF m 100 #[.val (.int p1), .val (.ref b3), .unset, .unset, .unset, .unset, .unset, .unset] [(.int (own_max mx0 mx1))])) _
    rw [hmx2]
    show Steps p.tables e below (T34.setTop (mkF m 100 #[.val (.int p1), .val (.ref b3), .unset, .unset, .unset, .unset, .unset, .unset] [(.int mx2)])) _
    refine XS.aloadN X34.here hx rfl (hb hby at_100) rfl rfl ?_
    show Steps p.tables e below (T34.setTop (mkF m 101 #[.val (.int p1), .val (.ref b3), .unset, .unset, .unset, .unset, .unset, .unset] [(.ref b3), (.int mx2)])) _
    refine XS.iconst X34.here hx rfl (hb hby at_101) ?_
    show Steps p.tables e below (T34.setTop (mkF m 102 #[.val (.int p1), .val (.ref b3), .unset, .unset, .unset, .unset, .unset, .unset] [(.int (4 : Int32)), (.ref b3), (.int mx2)])) _
    refine X34.iaload hx (j := (4 : Int32)) (v := (.int c4)) (by rw [eq34]; exact Ar35.1) (State.isArrayOf_alike hZ.alike Ar35.2.1) Ar35.2.2 hin35 hat35 (g := (mkF m 102 #[.val (.int p1), .val (.ref b3), .unset, .unset, .unset, .unset, .unset, .unset] [(.int (4 : Int32)), (.ref b3), (.int mx2)])) rfl rfl (hb hby at_102) _ ?_
    show Steps p.tables e below (T34.setTop (mkF m 103 #[.val (.int p1), .val (.ref b3), .unset, .unset, .unset, .unset, .unset, .unset] [(.int c4), (.int mx2)])) _
    refine XS.aloadN X34.here hx rfl (hb hby at_103) rfl rfl ?_
    show Steps p.tables e below (T34.setTop (mkF m 104 #[.val (.int p1), .val (.ref b3), .unset, .unset, .unset, .unset, .unset, .unset] [(.ref b3), (.int c4), (.int mx2)])) _
    refine XS.iconst X34.here hx rfl (hb hby at_104) ?_
    show Steps p.tables e below (T34.setTop (mkF m 105 #[.val (.int p1), .val (.ref b3), .unset, .unset, .unset, .unset, .unset, .unset] [(.int (5 : Int32)), (.ref b3), (.int c4), (.int mx2)])) _
    refine X34.iaload hx (j := (5 : Int32)) (v := (.int c5)) (by rw [eq34]; exact Ar36.1) (State.isArrayOf_alike hZ.alike Ar36.2.1) Ar36.2.2 hin36 hat36 (g := (mkF m 105 #[.val (.int p1), .val (.ref b3), .unset, .unset, .unset, .unset, .unset, .unset] [(.int (5 : Int32)), (.ref b3), (.int c4), (.int mx2)])) rfl rfl (hb hby at_105) _ ?_
    show Steps p.tables e below (T34.setTop (mkF m 106 #[.val (.int p1), .val (.ref b3), .unset, .unset, .unset, .unset, .unset, .unset] [(.int c5), (.int c4), (.int mx2)])) _
    exact k)
  obtain ⟨_, _, ⟨T38, L38, kk38, nn38⟩, -, X38, ⟨Lc38, hQ38, l38, y38, z38⟩, st38⟩ := Jvm.LawKit.callS X34 hx (y := (⟨"java/lang/Math", "max", "(II)I"⟩ : MethodName)) hown (mvT hZ (hw _ (List.mem_of_getElem? (i := 1) rfl))) (mvT hZ (hw _ (List.mem_of_getElem? (i := 2) rfl))) (mvT hZ (hw _ (List.mem_of_getElem? (i := 3) rfl))) (mvT hZ (hw _ (List.mem_of_getElem? (i := 4) rfl))) (by decide) (backOf (W := 1) (rm_max l Z a0 hw [] c4 c5 hhc n0 Zc ) hZ (hw _ (List.mem_of_getElem? (i := 4) rfl)) (hw _ (List.mem_of_getElem? (i := 3) rfl)) (by decide) (by decide)) (g := (mkF m 106 #[.val (.int p1), .val (.ref b3), .unset, .unset, .unset, .unset, .unset, .unset] [(.int c5), (.int c4), (.int mx2)])) rfl (by rw [hml]; rfl) (argsL := [(.int c4), (.int c5)]) (rest := [(.int mx2)]) (lenOf pd__II_I rfl) rfl (by show 2 * 0 + _ ≤ _; exact Nat.le_of_eq rfl) (hb hby at_106) (fun _ _ => ⟨rfl, eq34, (by decide : 1 + 0 ≤ _), (by decide : 6 + 0 ≤ _)⟩)
  dsimp only [Pt.U, Pt.locs, Pt.cells, Pt.slots] at X38 l38 y38 z38 st38 hQ38
  subst l38 y38 z38
  obtain ⟨rfl, N38q, eq38⟩ := hQ38
  have N38 := Fr.app N34 N38q
  clear pre33 X34 st34 eq34 N34 Ar35 kc35 S35 M35 H35 G35 hin35 hat35 Ar36 kc36 S36 M36 H36 G36 hin36 hat36 N38q
  obtain ⟨mx3, hmx3⟩ : ∃ z : Int32, own_max c4 c5 = z := ⟨_, rfl⟩
  have pre39 : ∀ t, Steps p.tables e below (T38.setTop (mkF m 109 #[.val (.int p1), .val (.ref b3), .unset, .unset, .unset, .unset, .unset, .unset] [(.int mx3), (.int mx2)])) t → Steps p.tables e below (s₁.setTop (entryFrame m #[(.int p1)] maxLocals)) t := fun t k => pre37 t (by
    show Steps p.tables e below (T34.setTop (mkF m 106 #[.val (.int p1), .val (.ref b3), .unset, .unset, .unset, .unset, .unset, .unset] [(.int c5), (.int c4), (.int mx2)])) _
    refine st38 _ ?_
    show Steps p.tables e below (T38.setTop (mkF m 109 #[.val (.int p1), .val (.ref b3), .unset, .unset, .unset, .unset, .unset, .unset] [(.int (own_max c4 c5)), (.int mx2)])) _
    rw [hmx3]
    show Steps p.tables e below (T38.setTop (mkF m 109 #[.val (.int p1), .val (.ref b3), .unset, .unset, .unset, .unset, .unset, .unset] [(.int mx3), (.int mx2)])) _
    exact k)
  obtain ⟨_, _, ⟨T40, L40, kk40, nn40⟩, -, X40, ⟨Lc40, hQ40, l40, y40, z40⟩, st40⟩ := Jvm.LawKit.callS X38 hx (y := (⟨"java/lang/Math", "max", "(II)I"⟩ : MethodName)) hown (mvT hZ (hw _ (List.mem_of_getElem? (i := 1) rfl))) (mvT hZ (hw _ (List.mem_of_getElem? (i := 2) rfl))) (mvT hZ (hw _ (List.mem_of_getElem? (i := 3) rfl))) (mvT hZ (hw _ (List.mem_of_getElem? (i := 4) rfl))) (by decide) (backOf (W := 0) (rm_max l Z a0 hw [] mx2 mx3 hhc n0 Zc ) hZ (hw _ (List.mem_of_getElem? (i := 4) rfl)) (hw _ (List.mem_of_getElem? (i := 3) rfl)) (by decide) (by decide)) (g := (mkF m 109 #[.val (.int p1), .val (.ref b3), .unset, .unset, .unset, .unset, .unset, .unset] [(.int mx3), (.int mx2)])) rfl (by rw [hml]; rfl) (argsL := [(.int mx2), (.int mx3)]) (rest := []) (lenOf pd__II_I rfl) rfl (by show 2 * 0 + _ ≤ _; exact Nat.le_of_eq rfl) (hb hby at_109) (fun _ _ => ⟨rfl, eq38, (by decide : 1 + 0 ≤ _), (by decide : 6 + 0 ≤ _)⟩)
  dsimp only [Pt.U, Pt.locs, Pt.cells, Pt.slots] at X40 l40 y40 z40 st40 hQ40
  subst l40 y40 z40
  obtain ⟨rfl, N40q, eq40⟩ := hQ40
  have N40 := Fr.app N38 N40q
  clear pre37 X38 st38 eq38 N38 N40q
  obtain ⟨mx4, hmx4⟩ : ∃ z : Int32, own_max mx2 mx3 = z := ⟨_, rfl⟩
  have hmm : mx4 = own_max (own_max (own_max c0 c1) (own_max c2 c3)) (own_max c4 c5) := by rw [hmx0, hmx1, hmx2, hmx3, hmx4]
  obtain ⟨hn0, hn6, hi0, hi1, hi2, hi3, hi4, hi5⟩ := own_cnt hmm l0 l1 l2 l3 l4 l5
  have pre41 : ∀ t, Steps p.tables e below (T40.setTop (mkF m 112 #[.val (.int p1), .val (.ref b3), .unset, .unset, .unset, .unset, .unset, .unset] [(.int mx4)])) t → Steps p.tables e below (s₁.setTop (entryFrame m #[(.int p1)] maxLocals)) t := fun t k => pre39 t (by
    show Steps p.tables e below (T38.setTop (mkF m 109 #[.val (.int p1), .val (.ref b3), .unset, .unset, .unset, .unset, .unset, .unset] [(.int mx3), (.int mx2)])) _
    refine st40 _ ?_
    show Steps p.tables e below (T40.setTop (mkF m 112 #[.val (.int p1), .val (.ref b3), .unset, .unset, .unset, .unset, .unset, .unset] [(.int (own_max mx2 mx3))])) _
    rw [hmx4]
    show Steps p.tables e below (T40.setTop (mkF m 112 #[.val (.int p1), .val (.ref b3), .unset, .unset, .unset, .unset, .unset, .unset] [(.int mx4)])) _
    exact k)
  exact rs_0_2 l Z a0 hw ws p1 h0 n0 c0 c1 c2 c3 c4 c5 mx4 b3 k3 Bd hZ hml hhc X40 eq40 N40 Zc pre41 fc1_0 g_b3 hn0 hn6 hi0 hi1 hi2 hi3 hi4 hi5
set_option maxRecDepth 65536 in
set_option maxHeartbeats 40000000 in
theorem rm_0 (l : Launch) (Z : State) (a0 : Array Value) (hw : ∀ d ∈ tables_1, d.before a0 Z = true) (ws : List Jvm.Cond) (p1 : Int32) (h0 : Heap) (n0 : Nat) (Z0 : n0 ≤ h0.size)  :
    MetFree l x (head1 (Jvm.Cond.code x code maxLocals ret :: ws) room_1) (fun a U => a = #[(.int p1)] ∧ Z.Warmed39 U.vm ∧ U.heap = h0) (fun _ _ _ _ _ => True) (fun _ U o U' => ∃ v L, o = .returned v ∧ Q_0 Z p1 h0 n0 v U'.heap L ∧ FrameEnd U o U' L room_1.cells room_1.slots) := by
  refine MetFree.of_bodySF (plainFor_of_name pn_0) hisR ?_
  intro p e s m args below meth c s₁ Bd hml0 hP hK
  obtain ⟨rfl, hZ, hh⟩ := hP
  have hx := Bd.exec
  have hby := Bd.bytes
  have hml : c.maxLocals = 8 := hml0
  have hown : s.vm.findClass "com/example/even_odds/evenodds/relation/PartitionFirstStatesPinLaw" = some m.cls := findClass_of_methodNamed Bd.named
  have hnm := (name_of_methodNamed Bd.named Bd.method).1
  have X0 : Stand p l e room_1 s m #[(.int p1)] below meth c s₁ [] 0 0 := Stand.of_body Bd
  have e0 : s₁.heap = h0 := by rw [← hh, Bd.state]; rfl
  have N0 := Fr.nil n0
  have pre0 : ∀ t, Steps p.tables e below (s₁.setTop (mkF m 0 #[.val (.int p1), .unset, .unset, .unset, .unset, .unset, .unset, .unset] [])) t → Steps p.tables e below (s₁.setTop (entryFrame m #[(.int p1)] maxLocals)) t := fun t k => castTop (ef_0 m p1) k
  have pre2 : ∀ t, Steps p.tables e below (s₁.setTop (mkF m 2 #[.val (.int p1), .unset, .unset, .unset, .unset, .unset, .unset, .unset] [(.int (6 : Int32))])) t → Steps p.tables e below (s₁.setTop (entryFrame m #[(.int p1)] maxLocals)) t := fun t k => pre0 t (by
    show Steps p.tables e below (s₁.setTop (mkF m 0 #[.val (.int p1), .unset, .unset, .unset, .unset, .unset, .unset, .unset] [])) _
    refine XS.bipush X0.here hx rfl (hb hby at_0) ?_
    show Steps p.tables e below (s₁.setTop (mkF m 2 #[.val (.int p1), .unset, .unset, .unset, .unset, .unset, .unset, .unset] [(.int (6 : Int32))])) _
    exact k)
  obtain ⟨T3, h3, k3, X3, e3, E3, A3, st3⟩ := newP X0 hx hZ (hw _ (List.mem_of_getElem? (i := 0) rfl)) e0 (g := (mkF m 2 #[.val (.int p1), .unset, .unset, .unset, .unset, .unset, .unset, .unset] [(.int (6 : Int32))])) rfl (hb hby at_2) rfl (by decide) (cap := 6) (by decide) (by decide) (by decide) (by decide)
  obtain ⟨b3, g3⟩ : ∃ z, z = h0.size := ⟨_, rfl⟩
  rw [← g3] at A3 st3
  have g_b3 : n0 ≤ b3 := Nat.le_trans Z0 (Nat.le_of_eq g3.symm)
  have Z3 : n0 ≤ h3.size := Nat.le_trans Z0 E3.1
  have V3 := Arv.new A3 (by decide)
  have V5 : Arv Z h3 b3 k3 .int (6 : Int32) [(.int (0 : Int32)), (.int (0 : Int32)), (.int (0 : Int32)), (.int (0 : Int32)), (.int (0 : Int32)), (.int (0 : Int32))] (.int (0 : Int32)) := V3.pad (pad_rep [] (.int (0 : Int32)) 6)
  obtain ⟨c0, hc0, l0⟩ : ∃ z : Int32, ((p1 &&& (15 : Int32)) % (6 : Int32)) = z ∧ ¬ z < 0 ∧ z < 6 := ⟨_, rfl, own_b6 _⟩
  have pre6 : ∀ t, Steps p.tables e below (T3.setTop (mkF m 14 #[.val (.int p1), .val (.ref b3), .unset, .unset, .unset, .unset, .unset, .unset] [(.int c0), (.int (0 : Int32)), (.ref b3)])) t → Steps p.tables e below (s₁.setTop (entryFrame m #[(.int p1)] maxLocals)) t := fun t k => pre2 t (by
    show Steps p.tables e below (s₁.setTop (mkF m 2 #[.val (.int p1), .unset, .unset, .unset, .unset, .unset, .unset, .unset] [(.int (6 : Int32))])) _
    refine st3 _ ?_
    show Steps p.tables e below (T3.setTop (mkF m 4 #[.val (.int p1), .unset, .unset, .unset, .unset, .unset, .unset, .unset] [(.ref b3)])) _
    refine XS.astoreN X3.here hx rfl (hb hby at_4) rfl rfl (l' := #[.val (.int p1), .val (.ref b3), .unset, .unset, .unset, .unset, .unset, .unset]) rfl ?_
    show Steps p.tables e below (T3.setTop (mkF m 5 #[.val (.int p1), .val (.ref b3), .unset, .unset, .unset, .unset, .unset, .unset] [])) _
    refine XS.aloadN X3.here hx rfl (hb hby at_5) rfl rfl ?_
    show Steps p.tables e below (T3.setTop (mkF m 6 #[.val (.int p1), .val (.ref b3), .unset, .unset, .unset, .unset, .unset, .unset] [(.ref b3)])) _
    refine XS.iconst X3.here hx rfl (hb hby at_6) ?_
    show Steps p.tables e below (T3.setTop (mkF m 7 #[.val (.int p1), .val (.ref b3), .unset, .unset, .unset, .unset, .unset, .unset] [(.int (0 : Int32)), (.ref b3)])) _
    refine XS.iloadN X3.here hx rfl (hb hby at_7) rfl ?_
    show Steps p.tables e below (T3.setTop (mkF m 8 #[.val (.int p1), .val (.ref b3), .unset, .unset, .unset, .unset, .unset, .unset] [(.int p1), (.int (0 : Int32)), (.ref b3)])) _
    refine XS.bipush X3.here hx rfl (hb hby at_8) ?_
    show Steps p.tables e below (T3.setTop (mkF m 10 #[.val (.int p1), .val (.ref b3), .unset, .unset, .unset, .unset, .unset, .unset] [(.int (15 : Int32)), (.int p1), (.int (0 : Int32)), (.ref b3)])) _
    refine XS.iand X3.here hx rfl (hb hby at_10) rfl ?_
    show Steps p.tables e below (T3.setTop (mkF m 11 #[.val (.int p1), .val (.ref b3), .unset, .unset, .unset, .unset, .unset, .unset] [(.int (p1 &&& (15 : Int32))), (.int (0 : Int32)), (.ref b3)])) _
    refine XS.bipush X3.here hx rfl (hb hby at_11) ?_
    show Steps p.tables e below (T3.setTop (mkF m 13 #[.val (.int p1), .val (.ref b3), .unset, .unset, .unset, .unset, .unset, .unset] [(.int (6 : Int32)), (.int (p1 &&& (15 : Int32))), (.int (0 : Int32)), (.ref b3)])) _
    refine XS.irem X3.here hx rfl (hb hby at_13) rfl (by decide) ?_
    show Steps p.tables e below (T3.setTop (mkF m 14 #[.val (.int p1), .val (.ref b3), .unset, .unset, .unset, .unset, .unset, .unset] [(.int ((p1 &&& (15 : Int32)) - ((p1 &&& (15 : Int32)) / (6 : Int32)) * (6 : Int32))), (.int (0 : Int32)), (.ref b3)])) _
    rw [own_irem]
    show Steps p.tables e below (T3.setTop (mkF m 14 #[.val (.int p1), .val (.ref b3), .unset, .unset, .unset, .unset, .unset, .unset] [(.int ((p1 &&& (15 : Int32)) % (6 : Int32))), (.int (0 : Int32)), (.ref b3)])) _
    rw [hc0]
    show Steps p.tables e below (T3.setTop (mkF m 14 #[.val (.int p1), .val (.ref b3), .unset, .unset, .unset, .unset, .unset, .unset] [(.int c0), (.int (0 : Int32)), (.ref b3)])) _
    exact k)
  obtain ⟨cl7, Ar7, kc7, S7, M7, H7, G7⟩ := id V5
  have hin7 := inb_of S7 (j := (0 : Int32)) (by decide)
  obtain ⟨T7, h7, X7, e7, W7, st7⟩ := stI X3 hx hZ e3 Ar7 (j := (0 : Int32)) hin7 (g := (mkF m 14 #[.val (.int p1), .val (.ref b3), .unset, .unset, .unset, .unset, .unset, .unset] [(.int c0), (.int (0 : Int32)), (.ref b3)])) rfl rfl (hb hby at_14)
  have V7 : Arv Z h7 b3 k3 .int (6 : Int32) [(.int c0), (.int (0 : Int32)), (.int (0 : Int32)), (.int (0 : Int32)), (.int (0 : Int32)), (.int (0 : Int32))] (.int (0 : Int32)) := Arv.set Ar7 kc7 S7 M7 H7 G7 (v := (.int c0)) rfl W7 0 (by decide) (by simp)
  have N7 := Fr.snoc X7 N0 g_b3
  have Z7 : n0 ≤ h7.size := Nat.le_trans Z3 (Keep.of_wr W7).1
  obtain ⟨c1, hc1, l1⟩ : ∃ z : Int32, (((XT.ushr p1 (4 : Int32)) &&& (15 : Int32)) % (6 : Int32)) = z ∧ ¬ z < 0 ∧ z < 6 := ⟨_, rfl, own_b6 _⟩
  have pre9 : ∀ t, Steps p.tables e below (T7.setTop (mkF m 26 #[.val (.int p1), .val (.ref b3), .unset, .unset, .unset, .unset, .unset, .unset] [(.int c1), (.int (1 : Int32)), (.ref b3)])) t → Steps p.tables e below (s₁.setTop (entryFrame m #[(.int p1)] maxLocals)) t := fun t k => pre6 t (by
    show Steps p.tables e below (T3.setTop (mkF m 14 #[.val (.int p1), .val (.ref b3), .unset, .unset, .unset, .unset, .unset, .unset] [(.int c0), (.int (0 : Int32)), (.ref b3)])) _
    refine st7 _ ?_
    show Steps p.tables e below (T7.setTop (mkF m 15 #[.val (.int p1), .val (.ref b3), .unset, .unset, .unset, .unset, .unset, .unset] [])) _
    refine XS.aloadN X7.here hx rfl (hb hby at_15) rfl rfl ?_
    show Steps p.tables e below (T7.setTop (mkF m 16 #[.val (.int p1), .val (.ref b3), .unset, .unset, .unset, .unset, .unset, .unset] [(.ref b3)])) _
    refine XS.iconst X7.here hx rfl (hb hby at_16) ?_
    show Steps p.tables e below (T7.setTop (mkF m 17 #[.val (.int p1), .val (.ref b3), .unset, .unset, .unset, .unset, .unset, .unset] [(.int (1 : Int32)), (.ref b3)])) _
    refine XS.iloadN X7.here hx rfl (hb hby at_17) rfl ?_
    show Steps p.tables e below (T7.setTop (mkF m 18 #[.val (.int p1), .val (.ref b3), .unset, .unset, .unset, .unset, .unset, .unset] [(.int p1), (.int (1 : Int32)), (.ref b3)])) _
    refine XS.iconst X7.here hx rfl (hb hby at_18) ?_
    show Steps p.tables e below (T7.setTop (mkF m 19 #[.val (.int p1), .val (.ref b3), .unset, .unset, .unset, .unset, .unset, .unset] [(.int (4 : Int32)), (.int p1), (.int (1 : Int32)), (.ref b3)])) _
    refine XT.iushr X7.here hx rfl (hb hby at_19) rfl ?_
    show Steps p.tables e below (T7.setTop (mkF m 20 #[.val (.int p1), .val (.ref b3), .unset, .unset, .unset, .unset, .unset, .unset] [(.int (XT.ushr p1 (4 : Int32))), (.int (1 : Int32)), (.ref b3)])) _
    refine XS.bipush X7.here hx rfl (hb hby at_20) ?_
    show Steps p.tables e below (T7.setTop (mkF m 22 #[.val (.int p1), .val (.ref b3), .unset, .unset, .unset, .unset, .unset, .unset] [(.int (15 : Int32)), (.int (XT.ushr p1 (4 : Int32))), (.int (1 : Int32)), (.ref b3)])) _
    refine XS.iand X7.here hx rfl (hb hby at_22) rfl ?_
    show Steps p.tables e below (T7.setTop (mkF m 23 #[.val (.int p1), .val (.ref b3), .unset, .unset, .unset, .unset, .unset, .unset] [(.int ((XT.ushr p1 (4 : Int32)) &&& (15 : Int32))), (.int (1 : Int32)), (.ref b3)])) _
    refine XS.bipush X7.here hx rfl (hb hby at_23) ?_
    show Steps p.tables e below (T7.setTop (mkF m 25 #[.val (.int p1), .val (.ref b3), .unset, .unset, .unset, .unset, .unset, .unset] [(.int (6 : Int32)), (.int ((XT.ushr p1 (4 : Int32)) &&& (15 : Int32))), (.int (1 : Int32)), (.ref b3)])) _
    refine XS.irem X7.here hx rfl (hb hby at_25) rfl (by decide) ?_
    show Steps p.tables e below (T7.setTop (mkF m 26 #[.val (.int p1), .val (.ref b3), .unset, .unset, .unset, .unset, .unset, .unset] [(.int (((XT.ushr p1 (4 : Int32)) &&& (15 : Int32)) - (((XT.ushr p1 (4 : Int32)) &&& (15 : Int32)) / (6 : Int32)) * (6 : Int32))), (.int (1 : Int32)), (.ref b3)])) _
    rw [own_irem]
    show Steps p.tables e below (T7.setTop (mkF m 26 #[.val (.int p1), .val (.ref b3), .unset, .unset, .unset, .unset, .unset, .unset] [(.int (((XT.ushr p1 (4 : Int32)) &&& (15 : Int32)) % (6 : Int32))), (.int (1 : Int32)), (.ref b3)])) _
    rw [hc1]
    show Steps p.tables e below (T7.setTop (mkF m 26 #[.val (.int p1), .val (.ref b3), .unset, .unset, .unset, .unset, .unset, .unset] [(.int c1), (.int (1 : Int32)), (.ref b3)])) _
    exact k)
  obtain ⟨cl10, Ar10, kc10, S10, M10, H10, G10⟩ := id V7
  have hin10 := inb_of S10 (j := (1 : Int32)) (by decide)
  obtain ⟨T10, h10, X10, e10, W10, st10⟩ := stI X7 hx hZ e7 Ar10 (j := (1 : Int32)) hin10 (g := (mkF m 26 #[.val (.int p1), .val (.ref b3), .unset, .unset, .unset, .unset, .unset, .unset] [(.int c1), (.int (1 : Int32)), (.ref b3)])) rfl rfl (hb hby at_26)
  have V10 : Arv Z h10 b3 k3 .int (6 : Int32) [(.int c0), (.int c1), (.int (0 : Int32)), (.int (0 : Int32)), (.int (0 : Int32)), (.int (0 : Int32))] (.int (0 : Int32)) := Arv.set Ar10 kc10 S10 M10 H10 G10 (v := (.int c1)) rfl W10 1 (by decide) (by simp)
  have N10 := Fr.snoc X10 N7 g_b3
  have Z10 : n0 ≤ h10.size := Nat.le_trans Z7 (Keep.of_wr W10).1
  obtain ⟨c2, hc2, l2⟩ : ∃ z : Int32, (((XT.ushr p1 (8 : Int32)) &&& (15 : Int32)) % (6 : Int32)) = z ∧ ¬ z < 0 ∧ z < 6 := ⟨_, rfl, own_b6 _⟩
  have pre12 : ∀ t, Steps p.tables e below (T10.setTop (mkF m 39 #[.val (.int p1), .val (.ref b3), .unset, .unset, .unset, .unset, .unset, .unset] [(.int c2), (.int (2 : Int32)), (.ref b3)])) t → Steps p.tables e below (s₁.setTop (entryFrame m #[(.int p1)] maxLocals)) t := fun t k => pre9 t (by
    show Steps p.tables e below (T7.setTop (mkF m 26 #[.val (.int p1), .val (.ref b3), .unset, .unset, .unset, .unset, .unset, .unset] [(.int c1), (.int (1 : Int32)), (.ref b3)])) _
    refine st10 _ ?_
    show Steps p.tables e below (T10.setTop (mkF m 27 #[.val (.int p1), .val (.ref b3), .unset, .unset, .unset, .unset, .unset, .unset] [])) _
    refine XS.aloadN X10.here hx rfl (hb hby at_27) rfl rfl ?_
    show Steps p.tables e below (T10.setTop (mkF m 28 #[.val (.int p1), .val (.ref b3), .unset, .unset, .unset, .unset, .unset, .unset] [(.ref b3)])) _
    refine XS.iconst X10.here hx rfl (hb hby at_28) ?_
    show Steps p.tables e below (T10.setTop (mkF m 29 #[.val (.int p1), .val (.ref b3), .unset, .unset, .unset, .unset, .unset, .unset] [(.int (2 : Int32)), (.ref b3)])) _
    refine XS.iloadN X10.here hx rfl (hb hby at_29) rfl ?_
    show Steps p.tables e below (T10.setTop (mkF m 30 #[.val (.int p1), .val (.ref b3), .unset, .unset, .unset, .unset, .unset, .unset] [(.int p1), (.int (2 : Int32)), (.ref b3)])) _
    refine XS.bipush X10.here hx rfl (hb hby at_30) ?_
    show Steps p.tables e below (T10.setTop (mkF m 32 #[.val (.int p1), .val (.ref b3), .unset, .unset, .unset, .unset, .unset, .unset] [(.int (8 : Int32)), (.int p1), (.int (2 : Int32)), (.ref b3)])) _
    refine XT.iushr X10.here hx rfl (hb hby at_32) rfl ?_
    show Steps p.tables e below (T10.setTop (mkF m 33 #[.val (.int p1), .val (.ref b3), .unset, .unset, .unset, .unset, .unset, .unset] [(.int (XT.ushr p1 (8 : Int32))), (.int (2 : Int32)), (.ref b3)])) _
    refine XS.bipush X10.here hx rfl (hb hby at_33) ?_
    show Steps p.tables e below (T10.setTop (mkF m 35 #[.val (.int p1), .val (.ref b3), .unset, .unset, .unset, .unset, .unset, .unset] [(.int (15 : Int32)), (.int (XT.ushr p1 (8 : Int32))), (.int (2 : Int32)), (.ref b3)])) _
    refine XS.iand X10.here hx rfl (hb hby at_35) rfl ?_
    show Steps p.tables e below (T10.setTop (mkF m 36 #[.val (.int p1), .val (.ref b3), .unset, .unset, .unset, .unset, .unset, .unset] [(.int ((XT.ushr p1 (8 : Int32)) &&& (15 : Int32))), (.int (2 : Int32)), (.ref b3)])) _
    refine XS.bipush X10.here hx rfl (hb hby at_36) ?_
    show Steps p.tables e below (T10.setTop (mkF m 38 #[.val (.int p1), .val (.ref b3), .unset, .unset, .unset, .unset, .unset, .unset] [(.int (6 : Int32)), (.int ((XT.ushr p1 (8 : Int32)) &&& (15 : Int32))), (.int (2 : Int32)), (.ref b3)])) _
    refine XS.irem X10.here hx rfl (hb hby at_38) rfl (by decide) ?_
    show Steps p.tables e below (T10.setTop (mkF m 39 #[.val (.int p1), .val (.ref b3), .unset, .unset, .unset, .unset, .unset, .unset] [(.int (((XT.ushr p1 (8 : Int32)) &&& (15 : Int32)) - (((XT.ushr p1 (8 : Int32)) &&& (15 : Int32)) / (6 : Int32)) * (6 : Int32))), (.int (2 : Int32)), (.ref b3)])) _
    rw [own_irem]
    show Steps p.tables e below (T10.setTop (mkF m 39 #[.val (.int p1), .val (.ref b3), .unset, .unset, .unset, .unset, .unset, .unset] [(.int (((XT.ushr p1 (8 : Int32)) &&& (15 : Int32)) % (6 : Int32))), (.int (2 : Int32)), (.ref b3)])) _
    rw [hc2]
    show Steps p.tables e below (T10.setTop (mkF m 39 #[.val (.int p1), .val (.ref b3), .unset, .unset, .unset, .unset, .unset, .unset] [(.int c2), (.int (2 : Int32)), (.ref b3)])) _
    exact k)
  obtain ⟨cl13, Ar13, kc13, S13, M13, H13, G13⟩ := id V10
  have hin13 := inb_of S13 (j := (2 : Int32)) (by decide)
  obtain ⟨T13, h13, X13, e13, W13, st13⟩ := stI X10 hx hZ e10 Ar13 (j := (2 : Int32)) hin13 (g := (mkF m 39 #[.val (.int p1), .val (.ref b3), .unset, .unset, .unset, .unset, .unset, .unset] [(.int c2), (.int (2 : Int32)), (.ref b3)])) rfl rfl (hb hby at_39)
  have V13 : Arv Z h13 b3 k3 .int (6 : Int32) [(.int c0), (.int c1), (.int c2), (.int (0 : Int32)), (.int (0 : Int32)), (.int (0 : Int32))] (.int (0 : Int32)) := Arv.set Ar13 kc13 S13 M13 H13 G13 (v := (.int c2)) rfl W13 2 (by decide) (by simp)
  have N13 := Fr.snoc X13 N10 g_b3
  have Z13 : n0 ≤ h13.size := Nat.le_trans Z10 (Keep.of_wr W13).1
  obtain ⟨c3, hc3, l3⟩ : ∃ z : Int32, (((XT.ushr p1 (12 : Int32)) &&& (15 : Int32)) % (6 : Int32)) = z ∧ ¬ z < 0 ∧ z < 6 := ⟨_, rfl, own_b6 _⟩
  have pre15 : ∀ t, Steps p.tables e below (T13.setTop (mkF m 52 #[.val (.int p1), .val (.ref b3), .unset, .unset, .unset, .unset, .unset, .unset] [(.int c3), (.int (3 : Int32)), (.ref b3)])) t → Steps p.tables e below (s₁.setTop (entryFrame m #[(.int p1)] maxLocals)) t := fun t k => pre12 t (by
    show Steps p.tables e below (T10.setTop (mkF m 39 #[.val (.int p1), .val (.ref b3), .unset, .unset, .unset, .unset, .unset, .unset] [(.int c2), (.int (2 : Int32)), (.ref b3)])) _
    refine st13 _ ?_
    show Steps p.tables e below (T13.setTop (mkF m 40 #[.val (.int p1), .val (.ref b3), .unset, .unset, .unset, .unset, .unset, .unset] [])) _
    refine XS.aloadN X13.here hx rfl (hb hby at_40) rfl rfl ?_
    show Steps p.tables e below (T13.setTop (mkF m 41 #[.val (.int p1), .val (.ref b3), .unset, .unset, .unset, .unset, .unset, .unset] [(.ref b3)])) _
    refine XS.iconst X13.here hx rfl (hb hby at_41) ?_
    show Steps p.tables e below (T13.setTop (mkF m 42 #[.val (.int p1), .val (.ref b3), .unset, .unset, .unset, .unset, .unset, .unset] [(.int (3 : Int32)), (.ref b3)])) _
    refine XS.iloadN X13.here hx rfl (hb hby at_42) rfl ?_
    show Steps p.tables e below (T13.setTop (mkF m 43 #[.val (.int p1), .val (.ref b3), .unset, .unset, .unset, .unset, .unset, .unset] [(.int p1), (.int (3 : Int32)), (.ref b3)])) _
    refine XS.bipush X13.here hx rfl (hb hby at_43) ?_
    show Steps p.tables e below (T13.setTop (mkF m 45 #[.val (.int p1), .val (.ref b3), .unset, .unset, .unset, .unset, .unset, .unset] [(.int (12 : Int32)), (.int p1), (.int (3 : Int32)), (.ref b3)])) _
    refine XT.iushr X13.here hx rfl (hb hby at_45) rfl ?_
    show Steps p.tables e below (T13.setTop (mkF m 46 #[.val (.int p1), .val (.ref b3), .unset, .unset, .unset, .unset, .unset, .unset] [(.int (XT.ushr p1 (12 : Int32))), (.int (3 : Int32)), (.ref b3)])) _
    refine XS.bipush X13.here hx rfl (hb hby at_46) ?_
    show Steps p.tables e below (T13.setTop (mkF m 48 #[.val (.int p1), .val (.ref b3), .unset, .unset, .unset, .unset, .unset, .unset] [(.int (15 : Int32)), (.int (XT.ushr p1 (12 : Int32))), (.int (3 : Int32)), (.ref b3)])) _
    refine XS.iand X13.here hx rfl (hb hby at_48) rfl ?_
    show Steps p.tables e below (T13.setTop (mkF m 49 #[.val (.int p1), .val (.ref b3), .unset, .unset, .unset, .unset, .unset, .unset] [(.int ((XT.ushr p1 (12 : Int32)) &&& (15 : Int32))), (.int (3 : Int32)), (.ref b3)])) _
    refine XS.bipush X13.here hx rfl (hb hby at_49) ?_
    show Steps p.tables e below (T13.setTop (mkF m 51 #[.val (.int p1), .val (.ref b3), .unset, .unset, .unset, .unset, .unset, .unset] [(.int (6 : Int32)), (.int ((XT.ushr p1 (12 : Int32)) &&& (15 : Int32))), (.int (3 : Int32)), (.ref b3)])) _
    refine XS.irem X13.here hx rfl (hb hby at_51) rfl (by decide) ?_
    show Steps p.tables e below (T13.setTop (mkF m 52 #[.val (.int p1), .val (.ref b3), .unset, .unset, .unset, .unset, .unset, .unset] [(.int (((XT.ushr p1 (12 : Int32)) &&& (15 : Int32)) - (((XT.ushr p1 (12 : Int32)) &&& (15 : Int32)) / (6 : Int32)) * (6 : Int32))), (.int (3 : Int32)), (.ref b3)])) _
    rw [own_irem]
    show Steps p.tables e below (T13.setTop (mkF m 52 #[.val (.int p1), .val (.ref b3), .unset, .unset, .unset, .unset, .unset, .unset] [(.int (((XT.ushr p1 (12 : Int32)) &&& (15 : Int32)) % (6 : Int32))), (.int (3 : Int32)), (.ref b3)])) _
    rw [hc3]
    show Steps p.tables e below (T13.setTop (mkF m 52 #[.val (.int p1), .val (.ref b3), .unset, .unset, .unset, .unset, .unset, .unset] [(.int c3), (.int (3 : Int32)), (.ref b3)])) _
    exact k)
  obtain ⟨cl16, Ar16, kc16, S16, M16, H16, G16⟩ := id V13
  have hin16 := inb_of S16 (j := (3 : Int32)) (by decide)
  obtain ⟨T16, h16, X16, e16, W16, st16⟩ := stI X13 hx hZ e13 Ar16 (j := (3 : Int32)) hin16 (g := (mkF m 52 #[.val (.int p1), .val (.ref b3), .unset, .unset, .unset, .unset, .unset, .unset] [(.int c3), (.int (3 : Int32)), (.ref b3)])) rfl rfl (hb hby at_52)
  have V16 : Arv Z h16 b3 k3 .int (6 : Int32) [(.int c0), (.int c1), (.int c2), (.int c3), (.int (0 : Int32)), (.int (0 : Int32))] (.int (0 : Int32)) := Arv.set Ar16 kc16 S16 M16 H16 G16 (v := (.int c3)) rfl W16 3 (by decide) (by simp)
  have N16 := Fr.snoc X16 N13 g_b3
  have Z16 : n0 ≤ h16.size := Nat.le_trans Z13 (Keep.of_wr W16).1
  obtain ⟨c4, hc4, l4⟩ : ∃ z : Int32, (((XT.ushr p1 (16 : Int32)) &&& (15 : Int32)) % (6 : Int32)) = z ∧ ¬ z < 0 ∧ z < 6 := ⟨_, rfl, own_b6 _⟩
  have pre18 : ∀ t, Steps p.tables e below (T16.setTop (mkF m 65 #[.val (.int p1), .val (.ref b3), .unset, .unset, .unset, .unset, .unset, .unset] [(.int c4), (.int (4 : Int32)), (.ref b3)])) t → Steps p.tables e below (s₁.setTop (entryFrame m #[(.int p1)] maxLocals)) t := fun t k => pre15 t (by
    show Steps p.tables e below (T13.setTop (mkF m 52 #[.val (.int p1), .val (.ref b3), .unset, .unset, .unset, .unset, .unset, .unset] [(.int c3), (.int (3 : Int32)), (.ref b3)])) _
    refine st16 _ ?_
    show Steps p.tables e below (T16.setTop (mkF m 53 #[.val (.int p1), .val (.ref b3), .unset, .unset, .unset, .unset, .unset, .unset] [])) _
    refine XS.aloadN X16.here hx rfl (hb hby at_53) rfl rfl ?_
    show Steps p.tables e below (T16.setTop (mkF m 54 #[.val (.int p1), .val (.ref b3), .unset, .unset, .unset, .unset, .unset, .unset] [(.ref b3)])) _
    refine XS.iconst X16.here hx rfl (hb hby at_54) ?_
    show Steps p.tables e below (T16.setTop (mkF m 55 #[.val (.int p1), .val (.ref b3), .unset, .unset, .unset, .unset, .unset, .unset] [(.int (4 : Int32)), (.ref b3)])) _
    refine XS.iloadN X16.here hx rfl (hb hby at_55) rfl ?_
    show Steps p.tables e below (T16.setTop (mkF m 56 #[.val (.int p1), .val (.ref b3), .unset, .unset, .unset, .unset, .unset, .unset] [(.int p1), (.int (4 : Int32)), (.ref b3)])) _
    refine XS.bipush X16.here hx rfl (hb hby at_56) ?_
    show Steps p.tables e below (T16.setTop (mkF m 58 #[.val (.int p1), .val (.ref b3), .unset, .unset, .unset, .unset, .unset, .unset] [(.int (16 : Int32)), (.int p1), (.int (4 : Int32)), (.ref b3)])) _
    refine XT.iushr X16.here hx rfl (hb hby at_58) rfl ?_
    show Steps p.tables e below (T16.setTop (mkF m 59 #[.val (.int p1), .val (.ref b3), .unset, .unset, .unset, .unset, .unset, .unset] [(.int (XT.ushr p1 (16 : Int32))), (.int (4 : Int32)), (.ref b3)])) _
    refine XS.bipush X16.here hx rfl (hb hby at_59) ?_
    show Steps p.tables e below (T16.setTop (mkF m 61 #[.val (.int p1), .val (.ref b3), .unset, .unset, .unset, .unset, .unset, .unset] [(.int (15 : Int32)), (.int (XT.ushr p1 (16 : Int32))), (.int (4 : Int32)), (.ref b3)])) _
    refine XS.iand X16.here hx rfl (hb hby at_61) rfl ?_
    show Steps p.tables e below (T16.setTop (mkF m 62 #[.val (.int p1), .val (.ref b3), .unset, .unset, .unset, .unset, .unset, .unset] [(.int ((XT.ushr p1 (16 : Int32)) &&& (15 : Int32))), (.int (4 : Int32)), (.ref b3)])) _
    refine XS.bipush X16.here hx rfl (hb hby at_62) ?_
    show Steps p.tables e below (T16.setTop (mkF m 64 #[.val (.int p1), .val (.ref b3), .unset, .unset, .unset, .unset, .unset, .unset] [(.int (6 : Int32)), (.int ((XT.ushr p1 (16 : Int32)) &&& (15 : Int32))), (.int (4 : Int32)), (.ref b3)])) _
    refine XS.irem X16.here hx rfl (hb hby at_64) rfl (by decide) ?_
    show Steps p.tables e below (T16.setTop (mkF m 65 #[.val (.int p1), .val (.ref b3), .unset, .unset, .unset, .unset, .unset, .unset] [(.int (((XT.ushr p1 (16 : Int32)) &&& (15 : Int32)) - (((XT.ushr p1 (16 : Int32)) &&& (15 : Int32)) / (6 : Int32)) * (6 : Int32))), (.int (4 : Int32)), (.ref b3)])) _
    rw [own_irem]
    show Steps p.tables e below (T16.setTop (mkF m 65 #[.val (.int p1), .val (.ref b3), .unset, .unset, .unset, .unset, .unset, .unset] [(.int (((XT.ushr p1 (16 : Int32)) &&& (15 : Int32)) % (6 : Int32))), (.int (4 : Int32)), (.ref b3)])) _
    rw [hc4]
    show Steps p.tables e below (T16.setTop (mkF m 65 #[.val (.int p1), .val (.ref b3), .unset, .unset, .unset, .unset, .unset, .unset] [(.int c4), (.int (4 : Int32)), (.ref b3)])) _
    exact k)
  obtain ⟨cl19, Ar19, kc19, S19, M19, H19, G19⟩ := id V16
  have hin19 := inb_of S19 (j := (4 : Int32)) (by decide)
  obtain ⟨T19, h19, X19, e19, W19, st19⟩ := stI X16 hx hZ e16 Ar19 (j := (4 : Int32)) hin19 (g := (mkF m 65 #[.val (.int p1), .val (.ref b3), .unset, .unset, .unset, .unset, .unset, .unset] [(.int c4), (.int (4 : Int32)), (.ref b3)])) rfl rfl (hb hby at_65)
  have V19 : Arv Z h19 b3 k3 .int (6 : Int32) [(.int c0), (.int c1), (.int c2), (.int c3), (.int c4), (.int (0 : Int32))] (.int (0 : Int32)) := Arv.set Ar19 kc19 S19 M19 H19 G19 (v := (.int c4)) rfl W19 4 (by decide) (by simp)
  have N19 := Fr.snoc X19 N16 g_b3
  have Z19 : n0 ≤ h19.size := Nat.le_trans Z16 (Keep.of_wr W19).1
  obtain ⟨c5, hc5, l5⟩ : ∃ z : Int32, (((XT.ushr p1 (20 : Int32)) &&& (15 : Int32)) % (6 : Int32)) = z ∧ ¬ z < 0 ∧ z < 6 := ⟨_, rfl, own_b6 _⟩
  have pre21 : ∀ t, Steps p.tables e below (T19.setTop (mkF m 78 #[.val (.int p1), .val (.ref b3), .unset, .unset, .unset, .unset, .unset, .unset] [(.int c5), (.int (5 : Int32)), (.ref b3)])) t → Steps p.tables e below (s₁.setTop (entryFrame m #[(.int p1)] maxLocals)) t := fun t k => pre18 t (by
    show Steps p.tables e below (T16.setTop (mkF m 65 #[.val (.int p1), .val (.ref b3), .unset, .unset, .unset, .unset, .unset, .unset] [(.int c4), (.int (4 : Int32)), (.ref b3)])) _
    refine st19 _ ?_
    show Steps p.tables e below (T19.setTop (mkF m 66 #[.val (.int p1), .val (.ref b3), .unset, .unset, .unset, .unset, .unset, .unset] [])) _
    refine XS.aloadN X19.here hx rfl (hb hby at_66) rfl rfl ?_
    show Steps p.tables e below (T19.setTop (mkF m 67 #[.val (.int p1), .val (.ref b3), .unset, .unset, .unset, .unset, .unset, .unset] [(.ref b3)])) _
    refine XS.iconst X19.here hx rfl (hb hby at_67) ?_
    show Steps p.tables e below (T19.setTop (mkF m 68 #[.val (.int p1), .val (.ref b3), .unset, .unset, .unset, .unset, .unset, .unset] [(.int (5 : Int32)), (.ref b3)])) _
    refine XS.iloadN X19.here hx rfl (hb hby at_68) rfl ?_
    show Steps p.tables e below (T19.setTop (mkF m 69 #[.val (.int p1), .val (.ref b3), .unset, .unset, .unset, .unset, .unset, .unset] [(.int p1), (.int (5 : Int32)), (.ref b3)])) _
    refine XS.bipush X19.here hx rfl (hb hby at_69) ?_
    show Steps p.tables e below (T19.setTop (mkF m 71 #[.val (.int p1), .val (.ref b3), .unset, .unset, .unset, .unset, .unset, .unset] [(.int (20 : Int32)), (.int p1), (.int (5 : Int32)), (.ref b3)])) _
    refine XT.iushr X19.here hx rfl (hb hby at_71) rfl ?_
    show Steps p.tables e below (T19.setTop (mkF m 72 #[.val (.int p1), .val (.ref b3), .unset, .unset, .unset, .unset, .unset, .unset] [(.int (XT.ushr p1 (20 : Int32))), (.int (5 : Int32)), (.ref b3)])) _
    refine XS.bipush X19.here hx rfl (hb hby at_72) ?_
    show Steps p.tables e below (T19.setTop (mkF m 74 #[.val (.int p1), .val (.ref b3), .unset, .unset, .unset, .unset, .unset, .unset] [(.int (15 : Int32)), (.int (XT.ushr p1 (20 : Int32))), (.int (5 : Int32)), (.ref b3)])) _
    refine XS.iand X19.here hx rfl (hb hby at_74) rfl ?_
    show Steps p.tables e below (T19.setTop (mkF m 75 #[.val (.int p1), .val (.ref b3), .unset, .unset, .unset, .unset, .unset, .unset] [(.int ((XT.ushr p1 (20 : Int32)) &&& (15 : Int32))), (.int (5 : Int32)), (.ref b3)])) _
    refine XS.bipush X19.here hx rfl (hb hby at_75) ?_
    show Steps p.tables e below (T19.setTop (mkF m 77 #[.val (.int p1), .val (.ref b3), .unset, .unset, .unset, .unset, .unset, .unset] [(.int (6 : Int32)), (.int ((XT.ushr p1 (20 : Int32)) &&& (15 : Int32))), (.int (5 : Int32)), (.ref b3)])) _
    refine XS.irem X19.here hx rfl (hb hby at_77) rfl (by decide) ?_
    show Steps p.tables e below (T19.setTop (mkF m 78 #[.val (.int p1), .val (.ref b3), .unset, .unset, .unset, .unset, .unset, .unset] [(.int (((XT.ushr p1 (20 : Int32)) &&& (15 : Int32)) - (((XT.ushr p1 (20 : Int32)) &&& (15 : Int32)) / (6 : Int32)) * (6 : Int32))), (.int (5 : Int32)), (.ref b3)])) _
    rw [own_irem]
    show Steps p.tables e below (T19.setTop (mkF m 78 #[.val (.int p1), .val (.ref b3), .unset, .unset, .unset, .unset, .unset, .unset] [(.int (((XT.ushr p1 (20 : Int32)) &&& (15 : Int32)) % (6 : Int32))), (.int (5 : Int32)), (.ref b3)])) _
    rw [hc5]
    show Steps p.tables e below (T19.setTop (mkF m 78 #[.val (.int p1), .val (.ref b3), .unset, .unset, .unset, .unset, .unset, .unset] [(.int c5), (.int (5 : Int32)), (.ref b3)])) _
    exact k)
  obtain ⟨cl22, Ar22, kc22, S22, M22, H22, G22⟩ := id V19
  have hin22 := inb_of S22 (j := (5 : Int32)) (by decide)
  obtain ⟨T22, h22, X22, e22, W22, st22⟩ := stI X19 hx hZ e19 Ar22 (j := (5 : Int32)) hin22 (g := (mkF m 78 #[.val (.int p1), .val (.ref b3), .unset, .unset, .unset, .unset, .unset, .unset] [(.int c5), (.int (5 : Int32)), (.ref b3)])) rfl rfl (hb hby at_78)
  have V22 : Arv Z h22 b3 k3 .int (6 : Int32) [(.int c0), (.int c1), (.int c2), (.int c3), (.int c4), (.int c5)] (.int (0 : Int32)) := Arv.set Ar22 kc22 S22 M22 H22 G22 (v := (.int c5)) rfl W22 5 (by decide) (by simp)
  have N22 := Fr.snoc X22 N19 g_b3
  have Z22 : n0 ≤ h22.size := Nat.le_trans Z19 (Keep.of_wr W22).1
  have pre24 : ∀ t, Steps p.tables e below (T22.setTop (mkF m 79 #[.val (.int p1), .val (.ref b3), .unset, .unset, .unset, .unset, .unset, .unset] [])) t → Steps p.tables e below (s₁.setTop (entryFrame m #[(.int p1)] maxLocals)) t := fun t k => pre21 t (by
    show Steps p.tables e below (T19.setTop (mkF m 78 #[.val (.int p1), .val (.ref b3), .unset, .unset, .unset, .unset, .unset, .unset] [(.int c5), (.int (5 : Int32)), (.ref b3)])) _
    refine st22 _ ?_
    show Steps p.tables e below (T22.setTop (mkF m 79 #[.val (.int p1), .val (.ref b3), .unset, .unset, .unset, .unset, .unset, .unset] [])) _
    exact k)
  exact rs_0_1 l Z a0 hw ws p1 h0 n0 c0 c1 c2 c3 c4 c5 b3 k3 Bd hZ hml h22 X22 e22 N22 Z22 pre24 V22 g_b3 l0 l1 l2 l3 l4 l5
set_option maxRecDepth 65536 in
set_option maxHeartbeats 40000000 in
theorem comes_1 {Post : Tables → Env → Array Value → State → Outcome → State → Prop} (hpost : ∀ tb e args s v u, (limb_1_1.after args s (.returned v) u = true ∧ limb_1_2.after args s (.returned v) u = true ∧ True) → FrameEnd s (.returned v) u (Jvm.fieldLocs frame_1_writes args s ++ Jvm.arrayLocs frame_1_arrays args s ++ Jvm.staticLocs frame_1_statics s) 16 128 → Post tb e args s (.returned v) u) :
    ArmFor flags0 classFile x code maxLocals ret World_1 tables_1 room_1 Calls_1 rest_1 Pre_1 Post := by
  intro l hfl _ _ p e ha hc hk s m args below hf hA hF happ hP
  obtain ⟨hcalls, hrest, hpre⟩ := hP
  obtain ⟨-, -, -, hnamed, -, -, -, hat⟩ := (Spec.applies_iff hf).mp happ
  obtain ⟨hg, hn⟩ := and_e (Cond.before_iff.mp (show (Jvm.Cond.and given_1 narrow_1).before args s = true from hpre))
  obtain ⟨gc, hg⟩ := and_e hg
  have gi0 := hg
  obtain ⟨w0, rfl⟩ : ∃ w0 : Value, args = #[w0] := by
    have hs : args.size = 1 := by simpa [Cond.value, given_1] using gc
    obtain ⟨L⟩ := args
    match L, hs with
    | [w0], _ => exact ⟨w0, rfl⟩
  have hw := fun d (hd : d ∈ tables_1) => atoms_spec (ws := Jvm.Cond.code x code maxLocals ret :: tables_1) hat d (List.mem_cons_of_mem _ hd)
  have hfit : Fit s := fun {y c} hc i hi => by
    obtain ⟨ha, rfl⟩ := Array.getElem?_eq_some_iff.mp hc
    have q := List.all_eq_true.mp ((Array.all_eq_true_iff_forall_mem.mp hF) _ (Array.getElem_mem ha)) i (List.mem_range.mpr hi)
    simpa [Array.getElem?_eq_getElem hi] using q
  obtain ⟨i0, ei0⟩ := is_v gi0
  obtain rfl : w0 = (.int i0) := Option.some.inj ei0
  obtain ⟨n, o, h1, h2, h3, _, L, rfl, ⟨rfl, N⟩, hq⟩ := rm_0 l s _ hw tables_1 i0  s.heap s.heap.size (Nat.le_refl _)  p e ha hc hk s m _ below hf ((Spec.applies_iff_loose hf).mp happ).1 ⟨rfl, State.Warmed39.refl s, rfl⟩ trivial
  refine ⟨n, _, h1, h2, h3, hpost _ _ _ _ _ _ ⟨Cond.after_iff.mpr rfl, Cond.after_iff.mpr (eq_i res_at (Term.int_eval (1)) rfl), trivial⟩ ⟨hq.1, hq.2.1, (hq.2.2.sift fun y hy => Or.inr (N y hy)).mono (by decide) (by decide)⟩⟩
theorem main_1_1 : Claimed_1_1 := comes_1 fun _ _ _ _ _ _ h hF => ⟨h.1, hF⟩
theorem main_1_2 : Claimed_1_2 := comes_1 fun _ _ _ _ _ _ h hF => ⟨h.2.1, hF⟩
end Jvm.Pilot.@@N@@
namespace Jvm.Pilot.@@N@@
open Jvm Jvm.ClassFile Sem Op Lib Jvm.Free Jvm.Stand Jvm.Pilot.@@N@@.Jvm.D
/-! MADE BY PROGRAM (witnessworld.py) out of the Statement's table words and the real class files: 10 classes; the members and pool entries that the words name. The judged class is class 1, her method 1. -/
namespace start1
open Jvm.ClassFile
def u (s : String) : CpInfo := .utf8 (stringToUtf16 s)
/-- a pool by its gaps: so many unusable entries, then the entry; so many at the end -/
def gap : Nat → List CpInfo → List CpInfo
  | 0, r => r
  | n + 1, r => .unusable :: gap n r
def poolList (es : List (Nat × CpInfo)) (last : Nat) : List CpInfo := es.foldr (fun e r => gap e.1 (e.2 :: r)) (gap last [])
def pool (es : List (Nat × CpInfo)) (last : Nat) : Array CpInfo := ⟨poolList es last⟩
def fileOf (pool : Array CpInfo) (this : Nat) (attrs : Array Attribute := #[]) (ms : Array MethodInfo := #[]) (fl : Nat := 33) (sup : Nat := 0) (ifs : Array Nat := #[]) (fds : Array FieldInfo := #[]) : ClassFile where
  minorVersion := 0
  majorVersion := 65
  constantPool := pool
  accessFlags := fl
  thisClass := this
  superClass := sup
  interfaces := ifs
  fields := fds
  methods := ms
  attributes := attrs
def plain (name : String) (sup : Option ClassId) : Class where
  name := name
  kind := .ordinary
  loader := none
  accessFlags := 33
  super := sup
  interfaces := #[]
  cf := none
  fields := #[]
  methods := #[]
  instanceTypes := #[]
  staticTypes := #[]
  resolved := #[]
  callSites := []
  init := .initialized
  statics := none
  mirror := none

def pool0 : Array CpInfo := pool [(5, u "<init>"), (0, u "()V"), (1, .class_ 10), (1, u "java/lang/Object")] 113

def k0c0 : Code := { maxStack := 0, maxLocals := 1, code := object_method_1_code, exceptionTable := #[], attributes := #[] }
def k0m0 : Method := { name := "<init>", desc := "()V", sig := { parameters := [], returnType := none }, accessFlags := 1, code := some k0c0 }
/-- java/lang/Object -/
def k0 : Class := { plain "java/lang/Object" none with
  accessFlags := 33
  interfaces := #[]
  cf := some (fileOf pool0 8 #[] #[{ accessFlags := 1, nameIndex := 5, descriptorIndex := 6, attributes := #[] }] 33 0 #[] #[])
  fields := #[]
  methods := #[k0m0]
  instanceTypes := #[]
  staticTypes := #[]
  resolved := Array.replicate 124 none
  statics := none }

def pool1 : Array CpInfo := pool [(2, .class_ 4), (1, u "java/lang/Object"), (0, u "<init>"), (0, u "()V"), (0, .methodref 8 9), (0, .class_ 10), (0, .nameAndType 11 12), (0, u "java/lang/Math"), (0, u "max"), (0, u "(II)I"), (0, .methodref 14 15), (0, .class_ 16), (0, .nameAndType 17 18), (0, u "com/example/even_odds/evenodds/relation/PartitionFirstStatesPinLaw"), (0, u "firstOf"), (0, u "([II)I"), (0, .class_ 20), (0, u "com/example/even_odds/evenodds/relation/Partition"), (0, .methodref 19 22), (0, .nameAndType 5 23), (0, u "([II)V"), (0, .methodref 19 25), (0, .nameAndType 26 27), (0, u "firstStates"), (0, u "()[I"), (0, .methodref 14 29), (0, .nameAndType 30 31), (0, u "check"), (0, u "([I[II)Z"), (2, u "law"), (0, u "(I)Z")] 5

def k1m0 : Method := { name := "<init>", desc := "()V", sig := { parameters := [], returnType := none }, accessFlags := 1, code := none }
def k1c1 : Code := { maxStack := 4, maxLocals := 8, code := code, exceptionTable := #[], attributes := #[] }
def k1m1 : Method := { name := "law", desc := "(I)Z", sig := { parameters := [.int], returnType := some .boolean }, accessFlags := 9, code := some k1c1 }
def k1c2 : Code := { maxStack := 2, maxLocals := 2, code := method_3_code, exceptionTable := #[], attributes := #[] }
def k1m2 : Method := { name := "firstOf", desc := "([II)I", sig := { parameters := [(.array .int), .int], returnType := some .int }, accessFlags := 10, code := some k1c2 }
def k1c3 : Code := { maxStack := 3, maxLocals := 3, code := method_4_code, exceptionTable := #[], attributes := #[] }
def k1m3 : Method := { name := "check", desc := "([I[II)Z", sig := { parameters := [(.array .int), (.array .int), .int], returnType := some .boolean }, accessFlags := 10, code := some k1c3 }
/-- com/example/even_odds/evenodds/relation/PartitionFirstStatesPinLaw -/
def k1 : Class := { plain "com/example/even_odds/evenodds/relation/PartitionFirstStatesPinLaw" (some 0) with
  accessFlags := 49
  interfaces := #[]
  cf := some (fileOf pool1 14 #[] #[{ accessFlags := 1, nameIndex := 5, descriptorIndex := 6, attributes := #[] }, { accessFlags := 9, nameIndex := 34, descriptorIndex := 35, attributes := #[] }, { accessFlags := 10, nameIndex := 17, descriptorIndex := 18, attributes := #[] }, { accessFlags := 10, nameIndex := 30, descriptorIndex := 31, attributes := #[] }] 49 2 #[] #[])
  fields := #[]
  methods := #[k1m0, k1m1, k1m2, k1m3]
  instanceTypes := #[]
  staticTypes := #[]
  resolved := Array.replicate 41 none
  statics := none }

def pool2 : Array CpInfo := pool [(1, .class_ 2), (0, u "java/lang/Math"), (1, .class_ 6), (1, u "java/lang/Object"), (0, u "<init>"), (0, u "()V"), (89, .class_ 100), (1, u "java/lang/Math$RandomNumberGeneratorHolder"), (71, u "negativeZeroFloatBits"), (0, u "J"), (2, u "negativeZeroDoubleBits"), (21, u "max"), (46, u "$assertionsDisabled"), (0, u "Z"), (88, u "(II)I"), (2, u "twoToTheDoubleScaleDown"), (0, u "D"), (4, u "twoToTheDoubleScaleUp"), (9, u "E"), (3, u "PI"), (2, u "TAU"), (2, u "DEGREES_TO_RADIANS"), (0, u "RADIANS_TO_DEGREES")] 94

def k2m0 : Method := { name := "<init>", desc := "()V", sig := { parameters := [], returnType := none }, accessFlags := 2, code := none }
def k2c1 : Code := { maxStack := 2, maxLocals := 2, code := jdk_29_method_65_code, exceptionTable := #[], attributes := #[] }
def k2m1 : Method := { name := "max", desc := "(II)I", sig := { parameters := [.int, .int], returnType := some .int }, accessFlags := 9, code := some k2c1 }
/-- java/lang/Math -/
def k2 : Class := { plain "java/lang/Math" (some 0) with
  accessFlags := 49
  interfaces := #[]
  cf := some (fileOf pool2 1 #[.nestMembers #[98]] #[{ accessFlags := 2, nameIndex := 7, descriptorIndex := 8, attributes := #[] }, { accessFlags := 9, nameIndex := 198, descriptorIndex := 335, attributes := #[] }] 49 4 #[] #[{ accessFlags := 25, nameIndex := 354, descriptorIndex := 339, attributes := #[] }, { accessFlags := 25, nameIndex := 358, descriptorIndex := 339, attributes := #[] }, { accessFlags := 25, nameIndex := 361, descriptorIndex := 339, attributes := #[] }, { accessFlags := 26, nameIndex := 364, descriptorIndex := 339, attributes := #[] }, { accessFlags := 26, nameIndex := 365, descriptorIndex := 339, attributes := #[] }, { accessFlags := 26, nameIndex := 172, descriptorIndex := 173, attributes := #[] }, { accessFlags := 26, nameIndex := 176, descriptorIndex := 173, attributes := #[] }, { accessFlags := 8, nameIndex := 344, descriptorIndex := 339, attributes := #[] }, { accessFlags := 8, nameIndex := 338, descriptorIndex := 339, attributes := #[] }, { accessFlags := 4120, nameIndex := 245, descriptorIndex := 246, attributes := #[] }])
  fields := #[{ name := "E", type := .double, accessFlags := 25, slot := 0, constantValue := 0 }, { name := "PI", type := .double, accessFlags := 25, slot := 1, constantValue := 0 }, { name := "TAU", type := .double, accessFlags := 25, slot := 2, constantValue := 0 }, { name := "DEGREES_TO_RADIANS", type := .double, accessFlags := 26, slot := 3, constantValue := 0 }, { name := "RADIANS_TO_DEGREES", type := .double, accessFlags := 26, slot := 4, constantValue := 0 }, { name := "negativeZeroFloatBits", type := .long, accessFlags := 26, slot := 5, constantValue := 0 }, { name := "negativeZeroDoubleBits", type := .long, accessFlags := 26, slot := 6, constantValue := 0 }, { name := "twoToTheDoubleScaleUp", type := .double, accessFlags := 8, slot := 7, constantValue := 0 }, { name := "twoToTheDoubleScaleDown", type := .double, accessFlags := 8, slot := 8, constantValue := 0 }, { name := "$assertionsDisabled", type := .boolean, accessFlags := 4120, slot := 9, constantValue := 0 }]
  methods := #[k2m0, k2m1]
  instanceTypes := #[]
  staticTypes := #[.double, .double, .double, .double, .double, .long, .long, .double, .double, .boolean]
  resolved := Array.replicate 460 none
  statics := none }

def pool3 : Array CpInfo := pool [(1, .methodref 2 3), (0, .class_ 4), (0, .nameAndType 5 6), (0, u "java/lang/Object"), (0, u "<init>"), (0, u "()V"), (0, .fieldref 8 9), (0, .class_ 10), (0, .nameAndType 11 12), (0, u "com/example/even_odds/evenodds/relation/Partition"), (0, u "classOf"), (0, u "[I"), (0, .fieldref 8 14), (0, .nameAndType 15 16), (0, u "classCount"), (0, u "I"), (9, u "([II)V"), (5, u "firstStates"), (0, u "()[I")] 21

def k3c0 : Code := { maxStack := 2, maxLocals := 3, code := prog_63_method_1_code, exceptionTable := #[], attributes := #[] }
def k3m0 : Method := { name := "<init>", desc := "([II)V", sig := { parameters := [(.array .int), .int], returnType := none }, accessFlags := 0, code := some k3c0 }
def k3c1 : Code := { maxStack := 3, maxLocals := 3, code := prog_63_method_5_code, exceptionTable := #[], attributes := #[] }
def k3m1 : Method := { name := "firstStates", desc := "()[I", sig := { parameters := [], returnType := some (.array .int) }, accessFlags := 0, code := some k3c1 }
/-- com/example/even_odds/evenodds/relation/Partition -/
def k3 : Class := { plain "com/example/even_odds/evenodds/relation/Partition" (some 0) with
  accessFlags := 33
  interfaces := #[]
  cf := some (fileOf pool3 8 #[] #[{ accessFlags := 0, nameIndex := 5, descriptorIndex := 26, attributes := #[] }, { accessFlags := 0, nameIndex := 32, descriptorIndex := 33, attributes := #[] }] 33 2 #[] #[{ accessFlags := 18, nameIndex := 11, descriptorIndex := 12, attributes := #[] }, { accessFlags := 18, nameIndex := 15, descriptorIndex := 16, attributes := #[] }])
  fields := #[{ name := "classOf", type := (.array .int), accessFlags := 18, slot := 0, constantValue := 0 }, { name := "classCount", type := .int, accessFlags := 18, slot := 1, constantValue := 0 }]
  methods := #[k3m0, k3m1]
  instanceTypes := #[(.array .int), .int]
  staticTypes := #[]
  resolved := Array.replicate 55 none
  statics := none }

def pool4 : Array CpInfo := pool [(1, u "java/lang/Cloneable"), (0, .class_ 1), (0, u "java/lang/Object"), (0, .class_ 3)] 3

/-- java/lang/Cloneable -/
def k4 : Class := { plain "java/lang/Cloneable" (some 0) with
  accessFlags := 1537
  interfaces := #[]
  cf := some (fileOf pool4 2 #[] #[] 1537 4 #[] #[])
  fields := #[]
  methods := #[]
  instanceTypes := #[]
  staticTypes := #[]
  resolved := Array.replicate 8 none
  statics := none }

def pool5 : Array CpInfo := pool [(1, u "java/io/Serializable"), (0, .class_ 1), (0, u "java/lang/Object"), (0, .class_ 3)] 3

/-- java/io/Serializable -/
def k5 : Class := { plain "java/io/Serializable" (some 0) with
  accessFlags := 1537
  interfaces := #[]
  cf := some (fileOf pool5 2 #[] #[] 1537 4 #[] #[])
  fields := #[]
  methods := #[]
  instanceTypes := #[]
  staticTypes := #[]
  resolved := Array.replicate 8 none
  statics := none }

/-- the primitive byte -/
def k6 : Class := { plain "byte" none with kind := .primitive 'B', accessFlags := 0x411 }
/-- [B -/
def k7 : Class := { plain "[B" (some 0) with kind := .array 6 .byte, interfaces := #[4, 5], accessFlags := 1041 }

/-- the primitive int -/
def k8 : Class := { plain "int" none with kind := .primitive 'I', accessFlags := 0x411 }
/-- [I -/
def k9 : Class := { plain "[I" (some 0) with kind := .array 8 .int, interfaces := #[4, 5], accessFlags := 1041 }

def heap : Heap := #[]
def classes : Array Class := #[k0, k1, k2, k3, k4, k5, k6, k7, k8, k9]
def interned : List (Array UInt16 × Addr) := []
def slotsUsed : Nat := 0
def theMethod : MethodId := ⟨1, 1⟩
def args0 : Array Value := #[.int 5]
def aboutOver (below : List Frame) : State where
  vm := { classes := classes, interned := interned.toArray }
  heap := heap
  slotsUsed := slotsUsed
  threads := #[{ frames := .invoking theMethod args0 :: below }]
def below0 : List Frame := [.native { method := ⟨0, 0⟩, args := #[] }]
def about1 : State := aboutOver below0
def p0 : Program := .bare "" "" ""
def e0 : Env := launch0.env 0 0 0
theorem w_frames : about1.frames = Frame.invoking theMethod args0 :: below0 := rfl
set_option maxRecDepth 65536 in
theorem w_args : argsFit about1.vm theMethod args0 = true := by decide +kernel
set_option maxRecDepth 65536 in
theorem w_heap : heapFits about1 = true := by decide +kernel
set_option maxRecDepth 65536 in
theorem w_runnable : about1.curStatus? = some .runnable := by decide +kernel
set_option maxRecDepth 65536 in
theorem w_alone : about1.alone = true := by decide +kernel
set_option maxRecDepth 65536 in
theorem w_named : about1.methodNamed? x = some theMethod := by decide +kernel
set_option maxRecDepth 65536 in
theorem w_hears : about1.hears theMethod below0 = true := by decide +kernel
set_option maxRecDepth 65536 in
theorem w_ripe : about1.ripe theMethod args0 below0 = true := by decide +kernel
theorem w_running : about1.status = .running := rfl
set_option maxRecDepth 65536 in
theorem w_room : about1.hasRoom e0.platform room_1 = true :=
  launch0.hasRoom_least _ room_1 (by decide +kernel) (by decide +kernel) (by decide +kernel) (by decide +kernel) (by decide +kernel) (by decide +kernel)
theorem allAtoms_all (ts : List Jvm.Cond) (a : Array Jvm.Value) (st : Jvm.State) : (allAtoms ts).before a st = ts.all (fun c => c.before a st) := by
  induction ts with
  | nil => rfl
  | cons c t ih =>
    show (Jvm.Cond.and c (allAtoms t)).before a st = _
    rw [Jvm.Cond.before_and, ih, List.all_cons]
def words1 : List Jvm.Cond := Jvm.Cond.code x code maxLocals ret :: tables_1
/-- a 'code' word, met by the world's own term for the bytes: nothing is compared byte by byte -/
theorem code_word {y : MethodName} {bytes : ByteArray} {mx : Nat} {rt : Option FieldType} {a : Array Value} {s : State} {m : MethodId} {meth : Method} {c : Code} (h1 : s.methodNamed? y = some m) (h2 : s.vm.method? m = some meth) (h3 : meth.code = some c) (h4 : c.code = bytes)
    (h5 : (c.maxLocals == mx && c.exceptionTable.isEmpty && decide (c.maxStack ≤ mostOperands) && decide (meth.sig.returnType = rt) && !meth.locks && decide (parseMethodDescriptor y.desc = some meth.sig)) = true) : (Jvm.Cond.code y bytes mx rt).before a s = true := by
  simp only [Bool.and_eq_true, beq_iff_eq, Bool.not_eq_true', decide_eq_true_eq] at h5
  obtain ⟨⟨⟨⟨⟨g1, g2⟩, g3⟩, g4⟩, g5⟩, g6⟩ := h5
  simp [Cond.before, Cond.holds, Cond.value, h1, h2, h3, h4, g1, g2, g3, g4, g5, g6]
def isCode : Jvm.Cond → Bool
  | .code _ _ _ _ => true
  | _ => false
theorem all_split {L : List Jvm.Cond} {P : Jvm.Cond → Bool} (h1 : L.all (fun c => isCode c || P c) = true) (h2 : ∀ c ∈ L.filter isCode, P c = true) : L.all P = true := by
  refine List.all_eq_true.mpr fun c hc => ?_
  have h := List.all_eq_true.mp h1 c hc
  rcases Bool.eq_false_or_eq_true (isCode c) with hi | hi
  · exact h2 c (List.mem_filter.mpr ⟨hc, hi⟩)
  · simpa [hi] using h
set_option maxRecDepth 65536 in
theorem w_c0 : (Jvm.Cond.code x code maxLocals ret).before args0 about1 = true := code_word (m := ⟨1, 1⟩) (meth := k1m1) (c := k1c1) (by decide +kernel) rfl rfl rfl (by decide +kernel)
set_option maxRecDepth 65536 in
theorem w_c1 : (Jvm.Cond.code ({ cls := "java/lang/Math", name := "max", desc := "(II)I" } : Jvm.MethodName) jdk_29_method_65_code (2 : Nat) (Option.some Jvm.ClassFile.FieldType.int)).before args0 about1 = true := code_word (m := ⟨2, 1⟩) (meth := k2m1) (c := k2c1) (by decide +kernel) rfl rfl rfl (by decide +kernel)
set_option maxRecDepth 65536 in
theorem w_c2 : (Jvm.Cond.code ({ cls := "com/example/even_odds/evenodds/relation/PartitionFirstStatesPinLaw", name := "firstOf", desc := "([II)I" } : Jvm.MethodName) method_3_code (2 : Nat) (Option.some Jvm.ClassFile.FieldType.int)).before args0 about1 = true := code_word (m := ⟨1, 2⟩) (meth := k1m2) (c := k1c2) (by decide +kernel) rfl rfl rfl (by decide +kernel)
set_option maxRecDepth 65536 in
theorem w_c3 : (Jvm.Cond.code ({ cls := "com/example/even_odds/evenodds/relation/Partition", name := "<init>", desc := "([II)V" } : Jvm.MethodName) prog_63_method_1_code (3 : Nat) (Option.none : Option Jvm.ClassFile.FieldType)).before args0 about1 = true := code_word (m := ⟨3, 0⟩) (meth := k3m0) (c := k3c0) (by decide +kernel) rfl rfl rfl (by decide +kernel)
set_option maxRecDepth 65536 in
theorem w_c4 : (Jvm.Cond.code ({ cls := "java/lang/Object", name := "<init>", desc := "()V" } : Jvm.MethodName) object_method_1_code (1 : Nat) (Option.none : Option Jvm.ClassFile.FieldType)).before args0 about1 = true := code_word (m := ⟨0, 0⟩) (meth := k0m0) (c := k0c0) (by decide +kernel) rfl rfl rfl (by decide +kernel)
set_option maxRecDepth 65536 in
theorem w_c5 : (Jvm.Cond.code ({ cls := "com/example/even_odds/evenodds/relation/Partition", name := "firstStates", desc := "()[I" } : Jvm.MethodName) prog_63_method_5_code (3 : Nat) (Option.some (Jvm.ClassFile.FieldType.array Jvm.ClassFile.FieldType.int))).before args0 about1 = true := code_word (m := ⟨3, 1⟩) (meth := k3m1) (c := k3c1) (by decide +kernel) rfl rfl rfl (by decide +kernel)
set_option maxRecDepth 65536 in
theorem w_c6 : (Jvm.Cond.code ({ cls := "com/example/even_odds/evenodds/relation/PartitionFirstStatesPinLaw", name := "check", desc := "([I[II)Z" } : Jvm.MethodName) method_4_code (3 : Nat) (Option.some Jvm.ClassFile.FieldType.boolean)).before args0 about1 = true := code_word (m := ⟨1, 3⟩) (meth := k1m3) (c := k1c3) (by decide +kernel) rfl rfl rfl (by decide +kernel)
def codes1 : List Jvm.Cond := [Jvm.Cond.code x code maxLocals ret, Jvm.Cond.code ({ cls := "java/lang/Math", name := "max", desc := "(II)I" } : Jvm.MethodName) jdk_29_method_65_code (2 : Nat) (Option.some Jvm.ClassFile.FieldType.int), Jvm.Cond.code ({ cls := "com/example/even_odds/evenodds/relation/PartitionFirstStatesPinLaw", name := "firstOf", desc := "([II)I" } : Jvm.MethodName) method_3_code (2 : Nat) (Option.some Jvm.ClassFile.FieldType.int), Jvm.Cond.code ({ cls := "com/example/even_odds/evenodds/relation/Partition", name := "<init>", desc := "([II)V" } : Jvm.MethodName) prog_63_method_1_code (3 : Nat) (Option.none : Option Jvm.ClassFile.FieldType), Jvm.Cond.code ({ cls := "java/lang/Object", name := "<init>", desc := "()V" } : Jvm.MethodName) object_method_1_code (1 : Nat) (Option.none : Option Jvm.ClassFile.FieldType), Jvm.Cond.code ({ cls := "com/example/even_odds/evenodds/relation/Partition", name := "firstStates", desc := "()[I" } : Jvm.MethodName) prog_63_method_5_code (3 : Nat) (Option.some (Jvm.ClassFile.FieldType.array Jvm.ClassFile.FieldType.int)), Jvm.Cond.code ({ cls := "com/example/even_odds/evenodds/relation/PartitionFirstStatesPinLaw", name := "check", desc := "([I[II)Z" } : Jvm.MethodName) method_4_code (3 : Nat) (Option.some Jvm.ClassFile.FieldType.boolean)]
set_option maxRecDepth 65536 in
theorem codes_eq : words1.filter isCode = codes1 := rfl
theorem w_codes : ∀ c ∈ words1.filter isCode, c.before args0 about1 = true := by
  rw [codes_eq]
  intro c hc
  simp only [codes1, List.mem_cons, List.not_mem_nil, or_false] at hc
  rcases hc with rfl | rfl | rfl | rfl | rfl | rfl | rfl
  · exact w_c0
  · exact w_c1
  · exact w_c2
  · exact w_c3
  · exact w_c4
  · exact w_c5
  · exact w_c6
set_option maxRecDepth 65536 in
theorem w_t1 : (words1.take 24).all (fun c => isCode c || c.before args0 about1) = true := by decide +kernel
set_option maxRecDepth 65536 in
theorem w_t2 : (words1.drop 24).all (fun c => isCode c || c.before args0 about1) = true := by decide +kernel
theorem w_tables : (allAtoms (Jvm.Cond.code x code maxLocals ret :: tables_1)).before args0 about1 = true := by
  rw [allAtoms_all]
  show words1.all (fun c => c.before args0 about1) = true
  refine all_split ?_ w_codes
  rw [← List.take_append_drop 24 words1, List.all_append, w_t1, w_t2]
  rfl
set_option maxRecDepth 65536 in
theorem w_case : (Jvm.Cond.and given_1 narrow_1).before args0 about1 = true := by decide +kernel
theorem w_applies : (headSpec (Jvm.Cond.code x code maxLocals ret :: tables_1) room_1).applies x e0.platform about1 = true :=
  (Spec.applies_iff w_frames).mpr ⟨w_running, w_runnable, w_alone, w_named, w_hears, w_ripe, w_room, w_tables⟩
theorem atStart : AtStart classFile x code maxLocals ret World_1 tables_1 room_1 Calls_1 rest_1 Pre_1 launch0 p0 e0 about1 theMethod args0 below0 :=
  ⟨lists_1, trivial, launch0.admits_env _ _ _, launch0.least_env, fairChoices_fair.cas, fairChoices_fair.clock, w_frames, w_args, w_heap, w_applies, trivial, trivial, w_case⟩
end start1
theorem witness_1 : WitnessClaimed_1 := ⟨start1.p0, start1.e0, start1.about1, start1.theMethod, start1.args0, start1.below0, start1.atStart⟩
end Jvm.Pilot.@@N@@
