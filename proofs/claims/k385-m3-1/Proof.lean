import JvmDerived
import JvmDerived.Pilot.@@N@@Statement
import JvmDerived.Pilot.@@N@@Code
set_option linter.unusedVariables false
set_option linter.unusedSimpArgs false
namespace Jvm.RoadKit
open Sem ClassFile Op Lib Jvm.Stand Jvm.Free Jvm.LawKit
section New
variable {p : Program} {l : Launch} {e : Env} {R : Room} {s : State} {m : MethodId} {args : Array Value} {below : List Frame} {meth : Method} {c : Code} {T : State} {locs : List Loc} {cells slots : Nat}
theorem retI (X : Stand p l e R s m args below meth c T locs cells slots) (hx : p.tables.exec = Jvm.exec) {pc : Nat} {Ls : Array Slot} {z : Int32} {rest : List Value} (hret : meth.sig.returnType = some .int) (hd : decode c.code pc = .ok (.ireturn, 1)) {fs : List Frame}
    (hl : ∀ (f : JFrame) (acts : List Action), f.method = m → f.locked = none → f.entered = [] → (doReturn e (T.setTop f) acts (some (.int z))).1 = T.setFrames fs) : Steps p.tables e below (T.setTop (mkF m pc Ls (.int z :: rest))) (T.setFrames fs) := by
  have hm' : T.vm.method? m = some meth := X.method'
  have hn : narrow .int (.int z) = .int z := rfl
  show Steps p.tables e below (T.setTop { method := m, pc := pc, locals := Ls, stack := _ :: rest, locked := none }) _
  jvm_step X.here [X.here.top, hx, hd, hm', hret, hn]
  first | (intro acts; rw [hl _ acts rfl rfl rfl]) | rw [hl _ _ rfl rfl rfl]
  exact Steps.refl _
end New
end Jvm.RoadKit
namespace Jvm.Pilot.@@N@@
open Jvm Jvm.ClassFile Sem Op Lib Jvm.Free Jvm.Stand Jvm.LawKit Jvm.RoadKit Bundle Jvm.Pilot.@@N@@.Jvm.D
theorem own_irem (x y : Int32) : x - (x / y) * y = x % y := by
  apply Int32.toInt_inj.mp
  have a := (x % y).toInt_lt; have b := (x % y).le_toInt
  rw [Int32.toInt_mod] at a b ⊢
  rw [Int32.toInt_sub, Int32.toInt_mul, Int32.toInt_div, Int.bmod_mul_bmod, Int.sub_bmod_bmod, Int.mul_comm, ← Int.tmod_def]
  exact Int.bmod_eq_of_le (by omega) (by omega)
theorem own_ns_exa {Z : State} {h : Heap} {a : Addr} {C : String} (F : Exa Z h a C) : ∀ c : Cell, h[a]? = some c → c.vm.isStatics = false := fun c hc => by
  obtain ⟨cell, k, h1, -, -, h4, -⟩ := F
  cases h1.symm.trans hc; exact h4
theorem own_sta_keep {Z : State} {h h' : Heap} {C n d : String} {v : Value} {ws : List Addr} (F : Sta Z h C n d v) (K : Keep h h' ws) (q : ∀ x ∈ ws, ∀ c : Cell, h[x]? = some c → c.vm.isStatics = false) : Sta Z h' C n d v := by
  obtain ⟨cf, i, k, f, st, cell, h1, h2, h3, h4, h5, h6, h7⟩ := F
  refine ⟨cf, i, k, f, st, cell, h1, h2, h3, h4, K.2.1 st cell h5 (fun hm => ?_), h6, h7⟩
  rw [q st hm cell h5] at h6; cases h6
def own_hs (x : Int64) (m : Int32) : Int32 := if x < 126 then (if m = 0 then 2 else 6) else if (65535 : Int64) < x then (if m = 0 then 10 else 14) else (if m = 0 then 4 else 8)
theorem own_126 (x : Int64) : ¬ (125 : Int64) < x ↔ x < 126 := by
  have z1 : (125 : Int64).toInt = 125 := by decide +kernel
  have z2 : (126 : Int64).toInt = 126 := by decide +kernel
  rw [Int64.lt_iff_toInt_lt, Int64.lt_iff_toInt_lt, z1, z2]; omega
theorem dpi_0 : decode method_2_code 0 = .ok (.iload_n 2, 1) := by decide +kernel
theorem dpi_1 : decode method_2_code 1 = .ok (.bipush 7, 2) := by decide +kernel
theorem dpi_3 : decode method_2_code 3 = .ok (.iand, 1) := by decide +kernel
theorem dpi_4 : decode method_2_code 4 = .ok (.istore_n 3, 1) := by decide +kernel
theorem dpi_5 : decode method_2_code 5 = .ok (.iload_n 3, 1) := by decide +kernel
theorem dpi_6 : decode method_2_code 6 = .ok (.ifCond .ne 9, 3) := by decide +kernel
theorem dpi_9 : decode method_2_code 9 = .ok (.lload_n 0, 1) := by decide +kernel
theorem dpi_10 : decode method_2_code 10 = .ok (.ldc2_w 7, 3) := by decide +kernel
theorem dpi_13 : decode method_2_code 13 = .ok (.land, 1) := by decide +kernel
theorem dpi_14 : decode method_2_code 14 = .ok (.lreturn, 1) := by decide +kernel
theorem dpi_15 : decode method_2_code 15 = .ok (.iload_n 3, 1) := by decide +kernel
theorem dpi_16 : decode method_2_code 16 = .ok (.iconst 1, 1) := by decide +kernel
theorem dpi_17 : decode method_2_code 17 = .ok (.if_icmp .ne 9, 3) := by decide +kernel
theorem dpi_20 : decode method_2_code 20 = .ok (.lload_n 0, 1) := by decide +kernel
theorem dpi_21 : decode method_2_code 21 = .ok (.ldc2_w 9, 3) := by decide +kernel
theorem dpi_24 : decode method_2_code 24 = .ok (.land, 1) := by decide +kernel
theorem dpi_25 : decode method_2_code 25 = .ok (.lreturn, 1) := by decide +kernel
theorem dpi_26 : decode method_2_code 26 = .ok (.iload_n 3, 1) := by decide +kernel
theorem dpi_27 : decode method_2_code 27 = .ok (.iconst 2, 1) := by decide +kernel
theorem dpi_28 : decode method_2_code 28 = .ok (.if_icmp .ne 9, 3) := by decide +kernel
theorem dpi_31 : decode method_2_code 31 = .ok (.lload_n 0, 1) := by decide +kernel
theorem dpi_32 : decode method_2_code 32 = .ok (.ldc2_w 11, 3) := by decide +kernel
theorem dpi_35 : decode method_2_code 35 = .ok (.land, 1) := by decide +kernel
theorem dpi_36 : decode method_2_code 36 = .ok (.lreturn, 1) := by decide +kernel
theorem dpi_37 : decode method_2_code 37 = .ok (.iload_n 3, 1) := by decide +kernel
theorem dpi_38 : decode method_2_code 38 = .ok (.iconst 3, 1) := by decide +kernel
theorem dpi_39 : decode method_2_code 39 = .ok (.if_icmp .ne 9, 3) := by decide +kernel
theorem dpi_42 : decode method_2_code 42 = .ok (.lload_n 0, 1) := by decide +kernel
theorem dpi_43 : decode method_2_code 43 = .ok (.ldc2_w 15, 3) := by decide +kernel
theorem dpi_46 : decode method_2_code 46 = .ok (.land, 1) := by decide +kernel
theorem dpi_47 : decode method_2_code 47 = .ok (.lreturn, 1) := by decide +kernel
theorem dpi_48 : decode method_2_code 48 = .ok (.iload_n 3, 1) := by decide +kernel
theorem dpi_49 : decode method_2_code 49 = .ok (.iconst 4, 1) := by decide +kernel
theorem dpi_50 : decode method_2_code 50 = .ok (.if_icmp .ne 11, 3) := by decide +kernel
theorem dpi_53 : decode method_2_code 53 = .ok (.ldc2_w 17, 3) := by decide +kernel
theorem dpi_56 : decode method_2_code 56 = .ok (.lload_n 0, 1) := by decide +kernel
theorem dpi_57 : decode method_2_code 57 = .ok (.lconst 1, 1) := by decide +kernel
theorem dpi_58 : decode method_2_code 58 = .ok (.land, 1) := by decide +kernel
theorem dpi_59 : decode method_2_code 59 = .ok (.ladd, 1) := by decide +kernel
theorem dpi_60 : decode method_2_code 60 = .ok (.lreturn, 1) := by decide +kernel
theorem dpi_61 : decode method_2_code 61 = .ok (.iload_n 3, 1) := by decide +kernel
theorem dpi_62 : decode method_2_code 62 = .ok (.iconst 5, 1) := by decide +kernel
theorem dpi_63 : decode method_2_code 63 = .ok (.if_icmp .ne 11, 3) := by decide +kernel
theorem dpi_66 : decode method_2_code 66 = .ok (.ldc2_w 19, 3) := by decide +kernel
theorem dpi_69 : decode method_2_code 69 = .ok (.lload_n 0, 1) := by decide +kernel
theorem dpi_70 : decode method_2_code 70 = .ok (.lconst 1, 1) := by decide +kernel
theorem dpi_71 : decode method_2_code 71 = .ok (.land, 1) := by decide +kernel
theorem dpi_72 : decode method_2_code 72 = .ok (.ladd, 1) := by decide +kernel
theorem dpi_73 : decode method_2_code 73 = .ok (.lreturn, 1) := by decide +kernel
theorem dpi_74 : decode method_2_code 74 = .ok (.iload_n 3, 1) := by decide +kernel
theorem dpi_75 : decode method_2_code 75 = .ok (.bipush 6, 2) := by decide +kernel
theorem dpi_77 : decode method_2_code 77 = .ok (.if_icmp .ne 11, 3) := by decide +kernel
theorem dpi_80 : decode method_2_code 80 = .ok (.ldc2_w 15, 3) := by decide +kernel
theorem dpi_83 : decode method_2_code 83 = .ok (.lload_n 0, 1) := by decide +kernel
theorem dpi_84 : decode method_2_code 84 = .ok (.lconst 1, 1) := by decide +kernel
theorem dpi_85 : decode method_2_code 85 = .ok (.land, 1) := by decide +kernel
theorem dpi_86 : decode method_2_code 86 = .ok (.lsub, 1) := by decide +kernel
theorem dpi_87 : decode method_2_code 87 = .ok (.lreturn, 1) := by decide +kernel
theorem dpi_88 : decode method_2_code 88 = .ok (.lload_n 0, 1) := by decide +kernel
theorem dpi_89 : decode method_2_code 89 = .ok (.ldc2_w 21, 3) := by decide +kernel
theorem dpi_92 : decode method_2_code 92 = .ok (.land, 1) := by decide +kernel
theorem dpi_93 : decode method_2_code 93 = .ok (.lreturn, 1) := by decide +kernel
theorem pn_pi : plainName "com/example/terse_broker/tersebroker/websocket/FramesHeadSize113PinLaw" = true := by first | (simp [plainName, overriddenIn]; done) | decide +kernel
theorem ef_pi (m : MethodId) (x1 : Int64) (p2 : Int32) : entryFrame m #[(.long x1), (.int p2)] 4 = (mkF m 0 #[.val (.long x1), .second, .val (.int p2), .unset] []) := by first | (simp [entryFrame, mkF, argsToLocals, Value.category]; done) | rfl
def Q_pi (Z : State) (x1 : Int64) (p2 : Int32) (h0 : Heap) (n0 : Nat) (v : Option Value) (h : Heap) (L : List Loc) : Prop := ∃ z : Int64, v = some (.long z) ∧ Fr n0 L ∧ h = h0
set_option maxRecDepth 65536 in
set_option maxHeartbeats 40000000 in
theorem rm_pi (l : Launch) (Z : State) (a0 : Array Value) (hw : ∀ d ∈ tables_1, d.before a0 Z = true) (ws : List Jvm.Cond) (x1 : Int64) (p2 : Int32) (h0 : Heap) (n0 : Nat) (Z0 : n0 ≤ h0.size)  :
    MetFree l (⟨"com/example/terse_broker/tersebroker/websocket/FramesHeadSize113PinLaw", "pickLength", "(JI)J"⟩ : MethodName) (head1 (Jvm.Cond.code (⟨"com/example/terse_broker/tersebroker/websocket/FramesHeadSize113PinLaw", "pickLength", "(JI)J"⟩ : MethodName) method_2_code 4 (some .long) :: ws) ({ frames := 0, cells := 0, slots := 0, locals := 0 } : Room)) (fun a U => a = #[(.long x1), (.int p2)] ∧ Z.Warmed39 U.vm ∧ U.heap = h0) (fun _ _ _ _ _ => True) (fun _ U o U' => ∃ v L, o = .returned v ∧ Q_pi Z x1 p2 h0 n0 v U'.heap L ∧ FrameEnd U o U' L ({ frames := 0, cells := 0, slots := 0, locals := 0 } : Room).cells ({ frames := 0, cells := 0, slots := 0, locals := 0 } : Room).slots) := by
  refine MetFree.of_bodySF (plainFor_of_name pn_pi) hisR ?_
  intro p e s m args below meth c s₁ Bd hml0 hP hK
  obtain ⟨rfl, hZ, hh⟩ := hP
  have hx := Bd.exec
  have hby := Bd.bytes
  have hml : c.maxLocals = 4 := hml0
  have hown : s.vm.findClass "com/example/terse_broker/tersebroker/websocket/FramesHeadSize113PinLaw" = some m.cls := findClass_of_methodNamed Bd.named
  have hnm := (name_of_methodNamed Bd.named Bd.method).1
  have X0 : Stand p l e ({ frames := 0, cells := 0, slots := 0, locals := 0 } : Room) s m #[(.long x1), (.int p2)] below meth c s₁ [] 0 0 := Stand.of_body Bd
  have e0 : s₁.heap = h0 := by rw [← hh, Bd.state]; rfl
  have N0 := Fr.nil n0
  have pre0 : ∀ t, Steps p.tables e below (s₁.setTop (mkF m 0 #[.val (.long x1), .second, .val (.int p2), .unset] [])) t → Steps p.tables e below (s₁.setTop (entryFrame m #[(.long x1), (.int p2)] 4)) t := fun t k => castTop (ef_pi m x1 p2) k
  have pre2 : ∀ t, Steps p.tables e below (s₁.setTop (mkF m 6 #[.val (.long x1), .second, .val (.int p2), .val (.int (p2 &&& (7 : Int32)))] [(.int (p2 &&& (7 : Int32)))])) t → Steps p.tables e below (s₁.setTop (entryFrame m #[(.long x1), (.int p2)] 4)) t := fun t k => pre0 t (by
    show Steps p.tables e below (s₁.setTop (mkF m 0 #[.val (.long x1), .second, .val (.int p2), .unset] [])) _
    refine XS.iloadN X0.here hx rfl (hb hby dpi_0) rfl ?_
    show Steps p.tables e below (s₁.setTop (mkF m 1 #[.val (.long x1), .second, .val (.int p2), .unset] [(.int p2)])) _
    refine XS.bipush X0.here hx rfl (hb hby dpi_1) ?_
    show Steps p.tables e below (s₁.setTop (mkF m 3 #[.val (.long x1), .second, .val (.int p2), .unset] [(.int (7 : Int32)), (.int p2)])) _
    refine XS.iand X0.here hx rfl (hb hby dpi_3) rfl ?_
    show Steps p.tables e below (s₁.setTop (mkF m 4 #[.val (.long x1), .second, .val (.int p2), .unset] [(.int (p2 &&& (7 : Int32)))])) _
    refine XS.istoreN X0.here hx rfl (hb hby dpi_4) rfl (l' := #[.val (.long x1), .second, .val (.int p2), .val (.int (p2 &&& (7 : Int32)))]) rfl ?_
    show Steps p.tables e below (s₁.setTop (mkF m 5 #[.val (.long x1), .second, .val (.int p2), .val (.int (p2 &&& (7 : Int32)))] [])) _
    refine XS.iloadN X0.here hx rfl (hb hby dpi_5) rfl ?_
    show Steps p.tables e below (s₁.setTop (mkF m 6 #[.val (.long x1), .second, .val (.int p2), .val (.int (p2 &&& (7 : Int32)))] [(.int (p2 &&& (7 : Int32)))])) _
    exact k)
  by_cases hc0 : (p2 &&& (7 : Int32)) = 0
  · skip
    have pre3 : ∀ t, Steps p.tables e below (s₁.setTop (mkF m 14 #[.val (.long x1), .second, .val (.int p2), .val (.int (p2 &&& (7 : Int32)))] [(.long (x1 &&& (127 : Int64)))])) t → Steps p.tables e below (s₁.setTop (entryFrame m #[(.long x1), (.int p2)] 4)) t := fun t k => pre2 t (by
      show Steps p.tables e below (s₁.setTop (mkF m 6 #[.val (.long x1), .second, .val (.int p2), .val (.int (p2 &&& (7 : Int32)))] [(.int (p2 &&& (7 : Int32)))])) _
      refine XS.ifNo X0.here hx rfl (hb hby dpi_6) rfl (XT.i0_ne_f hc0) ?_
      show Steps p.tables e below (s₁.setTop (mkF m 9 #[.val (.long x1), .second, .val (.int p2), .val (.int (p2 &&& (7 : Int32)))] [])) _
      refine XT.lloadN X0.here hx rfl (hb hby dpi_9) rfl ?_
      show Steps p.tables e below (s₁.setTop (mkF m 10 #[.val (.long x1), .second, .val (.int p2), .val (.int (p2 &&& (7 : Int32)))] [(.long x1)])) _
      refine X0.ldc2J hx hown (mvT hZ (hw _ (List.mem_of_getElem? (i := 16) rfl))) rfl (hb hby dpi_10) ?_
      show Steps p.tables e below (s₁.setTop (mkF m 13 #[.val (.long x1), .second, .val (.int p2), .val (.int (p2 &&& (7 : Int32)))] [(.long (127 : Int64)), (.long x1)])) _
      refine XT.land X0.here hx rfl (hb hby dpi_13) rfl ?_
      show Steps p.tables e below (s₁.setTop (mkF m 14 #[.val (.long x1), .second, .val (.int p2), .val (.int (p2 &&& (7 : Int32)))] [(.long (x1 &&& (127 : Int64)))])) _
      exact k)
    obtain ⟨fs, hr, hrun, hended, hW, hsame⟩ := X0.leave (v := some (.long (x1 &&& (127 : Int64)))) (fun h => by rw [Bd.returns] at h; cases h)
    refine ⟨_, _, pre3 _ ?_, hrun, hended, _, _, rfl, ?_, ⟨_, rfl⟩, hW, hsame.mono (by decide) (by decide)⟩
    · exact X0.lreturnOut hx Bd.returns (hb hby dpi_14) hr
    · show Q_pi Z x1 p2 h0 n0 _ s₁.heap _
      rw [e0]
      exact ⟨_, rfl, N0, rfl⟩
  · skip
    have pre3 : ∀ t, Steps p.tables e below (s₁.setTop (mkF m 17 #[.val (.long x1), .second, .val (.int p2), .val (.int (p2 &&& (7 : Int32)))] [(.int (1 : Int32)), (.int (p2 &&& (7 : Int32)))])) t → Steps p.tables e below (s₁.setTop (entryFrame m #[(.long x1), (.int p2)] 4)) t := fun t k => pre2 t (by
      show Steps p.tables e below (s₁.setTop (mkF m 6 #[.val (.long x1), .second, .val (.int p2), .val (.int (p2 &&& (7 : Int32)))] [(.int (p2 &&& (7 : Int32)))])) _
      refine XS.ifYes X0.here hx rfl (pc0 := 6) (pc' := 15) rfl (hb hby dpi_6) rfl (XT.i0_ne_t hc0) (by decide) (by decide) ?_
      show Steps p.tables e below (s₁.setTop (mkF m 15 #[.val (.long x1), .second, .val (.int p2), .val (.int (p2 &&& (7 : Int32)))] [])) _
      refine XS.iloadN X0.here hx rfl (hb hby dpi_15) rfl ?_
      show Steps p.tables e below (s₁.setTop (mkF m 16 #[.val (.long x1), .second, .val (.int p2), .val (.int (p2 &&& (7 : Int32)))] [(.int (p2 &&& (7 : Int32)))])) _
      refine XS.iconst X0.here hx rfl (hb hby dpi_16) ?_
      show Steps p.tables e below (s₁.setTop (mkF m 17 #[.val (.long x1), .second, .val (.int p2), .val (.int (p2 &&& (7 : Int32)))] [(.int (1 : Int32)), (.int (p2 &&& (7 : Int32)))])) _
      exact k)
    by_cases hc1 : (p2 &&& (7 : Int32)) = 1
    · skip
      have pre4 : ∀ t, Steps p.tables e below (s₁.setTop (mkF m 25 #[.val (.long x1), .second, .val (.int p2), .val (.int (p2 &&& (7 : Int32)))] [(.long (x1 &&& (255 : Int64)))])) t → Steps p.tables e below (s₁.setTop (entryFrame m #[(.long x1), (.int p2)] 4)) t := fun t k => pre3 t (by
        show Steps p.tables e below (s₁.setTop (mkF m 17 #[.val (.long x1), .second, .val (.int p2), .val (.int (p2 &&& (7 : Int32)))] [(.int (1 : Int32)), (.int (p2 &&& (7 : Int32)))])) _
        refine XS.icmpNo X0.here hx rfl (hb hby dpi_17) rfl (XT.ii_ne_f hc1) ?_
        show Steps p.tables e below (s₁.setTop (mkF m 20 #[.val (.long x1), .second, .val (.int p2), .val (.int (p2 &&& (7 : Int32)))] [])) _
        refine XT.lloadN X0.here hx rfl (hb hby dpi_20) rfl ?_
        show Steps p.tables e below (s₁.setTop (mkF m 21 #[.val (.long x1), .second, .val (.int p2), .val (.int (p2 &&& (7 : Int32)))] [(.long x1)])) _
        refine X0.ldc2J hx hown (mvT hZ (hw _ (List.mem_of_getElem? (i := 17) rfl))) rfl (hb hby dpi_21) ?_
        show Steps p.tables e below (s₁.setTop (mkF m 24 #[.val (.long x1), .second, .val (.int p2), .val (.int (p2 &&& (7 : Int32)))] [(.long (255 : Int64)), (.long x1)])) _
        refine XT.land X0.here hx rfl (hb hby dpi_24) rfl ?_
        show Steps p.tables e below (s₁.setTop (mkF m 25 #[.val (.long x1), .second, .val (.int p2), .val (.int (p2 &&& (7 : Int32)))] [(.long (x1 &&& (255 : Int64)))])) _
        exact k)
      obtain ⟨fs, hr, hrun, hended, hW, hsame⟩ := X0.leave (v := some (.long (x1 &&& (255 : Int64)))) (fun h => by rw [Bd.returns] at h; cases h)
      refine ⟨_, _, pre4 _ ?_, hrun, hended, _, _, rfl, ?_, ⟨_, rfl⟩, hW, hsame.mono (by decide) (by decide)⟩
      · exact X0.lreturnOut hx Bd.returns (hb hby dpi_25) hr
      · show Q_pi Z x1 p2 h0 n0 _ s₁.heap _
        rw [e0]
        exact ⟨_, rfl, N0, rfl⟩
    · skip
      have pre4 : ∀ t, Steps p.tables e below (s₁.setTop (mkF m 28 #[.val (.long x1), .second, .val (.int p2), .val (.int (p2 &&& (7 : Int32)))] [(.int (2 : Int32)), (.int (p2 &&& (7 : Int32)))])) t → Steps p.tables e below (s₁.setTop (entryFrame m #[(.long x1), (.int p2)] 4)) t := fun t k => pre3 t (by
        show Steps p.tables e below (s₁.setTop (mkF m 17 #[.val (.long x1), .second, .val (.int p2), .val (.int (p2 &&& (7 : Int32)))] [(.int (1 : Int32)), (.int (p2 &&& (7 : Int32)))])) _
        refine XS.icmpYes X0.here hx rfl (pc0 := 17) (pc' := 26) rfl (hb hby dpi_17) rfl (XT.ii_ne_t hc1) (by decide) (by decide) ?_
        show Steps p.tables e below (s₁.setTop (mkF m 26 #[.val (.long x1), .second, .val (.int p2), .val (.int (p2 &&& (7 : Int32)))] [])) _
        refine XS.iloadN X0.here hx rfl (hb hby dpi_26) rfl ?_
        show Steps p.tables e below (s₁.setTop (mkF m 27 #[.val (.long x1), .second, .val (.int p2), .val (.int (p2 &&& (7 : Int32)))] [(.int (p2 &&& (7 : Int32)))])) _
        refine XS.iconst X0.here hx rfl (hb hby dpi_27) ?_
        show Steps p.tables e below (s₁.setTop (mkF m 28 #[.val (.long x1), .second, .val (.int p2), .val (.int (p2 &&& (7 : Int32)))] [(.int (2 : Int32)), (.int (p2 &&& (7 : Int32)))])) _
        exact k)
      by_cases hc2 : (p2 &&& (7 : Int32)) = 2
      · skip
        have pre5 : ∀ t, Steps p.tables e below (s₁.setTop (mkF m 36 #[.val (.long x1), .second, .val (.int p2), .val (.int (p2 &&& (7 : Int32)))] [(.long (x1 &&& (131071 : Int64)))])) t → Steps p.tables e below (s₁.setTop (entryFrame m #[(.long x1), (.int p2)] 4)) t := fun t k => pre4 t (by
          show Steps p.tables e below (s₁.setTop (mkF m 28 #[.val (.long x1), .second, .val (.int p2), .val (.int (p2 &&& (7 : Int32)))] [(.int (2 : Int32)), (.int (p2 &&& (7 : Int32)))])) _
          refine XS.icmpNo X0.here hx rfl (hb hby dpi_28) rfl (XT.ii_ne_f hc2) ?_
          show Steps p.tables e below (s₁.setTop (mkF m 31 #[.val (.long x1), .second, .val (.int p2), .val (.int (p2 &&& (7 : Int32)))] [])) _
          refine XT.lloadN X0.here hx rfl (hb hby dpi_31) rfl ?_
          show Steps p.tables e below (s₁.setTop (mkF m 32 #[.val (.long x1), .second, .val (.int p2), .val (.int (p2 &&& (7 : Int32)))] [(.long x1)])) _
          refine X0.ldc2J hx hown (mvT hZ (hw _ (List.mem_of_getElem? (i := 4) rfl))) rfl (hb hby dpi_32) ?_
          show Steps p.tables e below (s₁.setTop (mkF m 35 #[.val (.long x1), .second, .val (.int p2), .val (.int (p2 &&& (7 : Int32)))] [(.long (131071 : Int64)), (.long x1)])) _
          refine XT.land X0.here hx rfl (hb hby dpi_35) rfl ?_
          show Steps p.tables e below (s₁.setTop (mkF m 36 #[.val (.long x1), .second, .val (.int p2), .val (.int (p2 &&& (7 : Int32)))] [(.long (x1 &&& (131071 : Int64)))])) _
          exact k)
        obtain ⟨fs, hr, hrun, hended, hW, hsame⟩ := X0.leave (v := some (.long (x1 &&& (131071 : Int64)))) (fun h => by rw [Bd.returns] at h; cases h)
        refine ⟨_, _, pre5 _ ?_, hrun, hended, _, _, rfl, ?_, ⟨_, rfl⟩, hW, hsame.mono (by decide) (by decide)⟩
        · exact X0.lreturnOut hx Bd.returns (hb hby dpi_36) hr
        · show Q_pi Z x1 p2 h0 n0 _ s₁.heap _
          rw [e0]
          exact ⟨_, rfl, N0, rfl⟩
      · skip
        have pre5 : ∀ t, Steps p.tables e below (s₁.setTop (mkF m 39 #[.val (.long x1), .second, .val (.int p2), .val (.int (p2 &&& (7 : Int32)))] [(.int (3 : Int32)), (.int (p2 &&& (7 : Int32)))])) t → Steps p.tables e below (s₁.setTop (entryFrame m #[(.long x1), (.int p2)] 4)) t := fun t k => pre4 t (by
          show Steps p.tables e below (s₁.setTop (mkF m 28 #[.val (.long x1), .second, .val (.int p2), .val (.int (p2 &&& (7 : Int32)))] [(.int (2 : Int32)), (.int (p2 &&& (7 : Int32)))])) _
          refine XS.icmpYes X0.here hx rfl (pc0 := 28) (pc' := 37) rfl (hb hby dpi_28) rfl (XT.ii_ne_t hc2) (by decide) (by decide) ?_
          show Steps p.tables e below (s₁.setTop (mkF m 37 #[.val (.long x1), .second, .val (.int p2), .val (.int (p2 &&& (7 : Int32)))] [])) _
          refine XS.iloadN X0.here hx rfl (hb hby dpi_37) rfl ?_
          show Steps p.tables e below (s₁.setTop (mkF m 38 #[.val (.long x1), .second, .val (.int p2), .val (.int (p2 &&& (7 : Int32)))] [(.int (p2 &&& (7 : Int32)))])) _
          refine XS.iconst X0.here hx rfl (hb hby dpi_38) ?_
          show Steps p.tables e below (s₁.setTop (mkF m 39 #[.val (.long x1), .second, .val (.int p2), .val (.int (p2 &&& (7 : Int32)))] [(.int (3 : Int32)), (.int (p2 &&& (7 : Int32)))])) _
          exact k)
        by_cases hc3 : (p2 &&& (7 : Int32)) = 3
        · skip
          have pre6 : ∀ t, Steps p.tables e below (s₁.setTop (mkF m 47 #[.val (.long x1), .second, .val (.int p2), .val (.int (p2 &&& (7 : Int32)))] [(.long (x1 &&& (9223372036854775807 : Int64)))])) t → Steps p.tables e below (s₁.setTop (entryFrame m #[(.long x1), (.int p2)] 4)) t := fun t k => pre5 t (by
            show Steps p.tables e below (s₁.setTop (mkF m 39 #[.val (.long x1), .second, .val (.int p2), .val (.int (p2 &&& (7 : Int32)))] [(.int (3 : Int32)), (.int (p2 &&& (7 : Int32)))])) _
            refine XS.icmpNo X0.here hx rfl (hb hby dpi_39) rfl (XT.ii_ne_f hc3) ?_
            show Steps p.tables e below (s₁.setTop (mkF m 42 #[.val (.long x1), .second, .val (.int p2), .val (.int (p2 &&& (7 : Int32)))] [])) _
            refine XT.lloadN X0.here hx rfl (hb hby dpi_42) rfl ?_
            show Steps p.tables e below (s₁.setTop (mkF m 43 #[.val (.long x1), .second, .val (.int p2), .val (.int (p2 &&& (7 : Int32)))] [(.long x1)])) _
            refine X0.ldc2J hx hown (mvT hZ (hw _ (List.mem_of_getElem? (i := 18) rfl))) rfl (hb hby dpi_43) ?_
            show Steps p.tables e below (s₁.setTop (mkF m 46 #[.val (.long x1), .second, .val (.int p2), .val (.int (p2 &&& (7 : Int32)))] [(.long (9223372036854775807 : Int64)), (.long x1)])) _
            refine XT.land X0.here hx rfl (hb hby dpi_46) rfl ?_
            show Steps p.tables e below (s₁.setTop (mkF m 47 #[.val (.long x1), .second, .val (.int p2), .val (.int (p2 &&& (7 : Int32)))] [(.long (x1 &&& (9223372036854775807 : Int64)))])) _
            exact k)
          obtain ⟨fs, hr, hrun, hended, hW, hsame⟩ := X0.leave (v := some (.long (x1 &&& (9223372036854775807 : Int64)))) (fun h => by rw [Bd.returns] at h; cases h)
          refine ⟨_, _, pre6 _ ?_, hrun, hended, _, _, rfl, ?_, ⟨_, rfl⟩, hW, hsame.mono (by decide) (by decide)⟩
          · exact X0.lreturnOut hx Bd.returns (hb hby dpi_47) hr
          · show Q_pi Z x1 p2 h0 n0 _ s₁.heap _
            rw [e0]
            exact ⟨_, rfl, N0, rfl⟩
        · skip
          have pre6 : ∀ t, Steps p.tables e below (s₁.setTop (mkF m 50 #[.val (.long x1), .second, .val (.int p2), .val (.int (p2 &&& (7 : Int32)))] [(.int (4 : Int32)), (.int (p2 &&& (7 : Int32)))])) t → Steps p.tables e below (s₁.setTop (entryFrame m #[(.long x1), (.int p2)] 4)) t := fun t k => pre5 t (by
            show Steps p.tables e below (s₁.setTop (mkF m 39 #[.val (.long x1), .second, .val (.int p2), .val (.int (p2 &&& (7 : Int32)))] [(.int (3 : Int32)), (.int (p2 &&& (7 : Int32)))])) _
            refine XS.icmpYes X0.here hx rfl (pc0 := 39) (pc' := 48) rfl (hb hby dpi_39) rfl (XT.ii_ne_t hc3) (by decide) (by decide) ?_
            show Steps p.tables e below (s₁.setTop (mkF m 48 #[.val (.long x1), .second, .val (.int p2), .val (.int (p2 &&& (7 : Int32)))] [])) _
            refine XS.iloadN X0.here hx rfl (hb hby dpi_48) rfl ?_
            show Steps p.tables e below (s₁.setTop (mkF m 49 #[.val (.long x1), .second, .val (.int p2), .val (.int (p2 &&& (7 : Int32)))] [(.int (p2 &&& (7 : Int32)))])) _
            refine XS.iconst X0.here hx rfl (hb hby dpi_49) ?_
            show Steps p.tables e below (s₁.setTop (mkF m 50 #[.val (.long x1), .second, .val (.int p2), .val (.int (p2 &&& (7 : Int32)))] [(.int (4 : Int32)), (.int (p2 &&& (7 : Int32)))])) _
            exact k)
          by_cases hc4 : (p2 &&& (7 : Int32)) = 4
          · skip
            have pre7 : ∀ t, Steps p.tables e below (s₁.setTop (mkF m 60 #[.val (.long x1), .second, .val (.int p2), .val (.int (p2 &&& (7 : Int32)))] [(.long ((125 : Int64) + (x1 &&& (1 : Int64))))])) t → Steps p.tables e below (s₁.setTop (entryFrame m #[(.long x1), (.int p2)] 4)) t := fun t k => pre6 t (by
              show Steps p.tables e below (s₁.setTop (mkF m 50 #[.val (.long x1), .second, .val (.int p2), .val (.int (p2 &&& (7 : Int32)))] [(.int (4 : Int32)), (.int (p2 &&& (7 : Int32)))])) _
              refine XS.icmpNo X0.here hx rfl (hb hby dpi_50) rfl (XT.ii_ne_f hc4) ?_
              show Steps p.tables e below (s₁.setTop (mkF m 53 #[.val (.long x1), .second, .val (.int p2), .val (.int (p2 &&& (7 : Int32)))] [])) _
              refine X0.ldc2J hx hown (mvT hZ (hw _ (List.mem_of_getElem? (i := 13) rfl))) rfl (hb hby dpi_53) ?_
              show Steps p.tables e below (s₁.setTop (mkF m 56 #[.val (.long x1), .second, .val (.int p2), .val (.int (p2 &&& (7 : Int32)))] [(.long (125 : Int64))])) _
              refine XT.lloadN X0.here hx rfl (hb hby dpi_56) rfl ?_
              show Steps p.tables e below (s₁.setTop (mkF m 57 #[.val (.long x1), .second, .val (.int p2), .val (.int (p2 &&& (7 : Int32)))] [(.long x1), (.long (125 : Int64))])) _
              refine XT.lconst X0.here hx rfl (hb hby dpi_57) ?_
              show Steps p.tables e below (s₁.setTop (mkF m 58 #[.val (.long x1), .second, .val (.int p2), .val (.int (p2 &&& (7 : Int32)))] [(.long (1 : Int64)), (.long x1), (.long (125 : Int64))])) _
              refine XT.land X0.here hx rfl (hb hby dpi_58) rfl ?_
              show Steps p.tables e below (s₁.setTop (mkF m 59 #[.val (.long x1), .second, .val (.int p2), .val (.int (p2 &&& (7 : Int32)))] [(.long (x1 &&& (1 : Int64))), (.long (125 : Int64))])) _
              refine XT.ladd X0.here hx rfl (hb hby dpi_59) rfl ?_
              show Steps p.tables e below (s₁.setTop (mkF m 60 #[.val (.long x1), .second, .val (.int p2), .val (.int (p2 &&& (7 : Int32)))] [(.long ((125 : Int64) + (x1 &&& (1 : Int64))))])) _
              exact k)
            obtain ⟨fs, hr, hrun, hended, hW, hsame⟩ := X0.leave (v := some (.long ((125 : Int64) + (x1 &&& (1 : Int64))))) (fun h => by rw [Bd.returns] at h; cases h)
            refine ⟨_, _, pre7 _ ?_, hrun, hended, _, _, rfl, ?_, ⟨_, rfl⟩, hW, hsame.mono (by decide) (by decide)⟩
            · exact X0.lreturnOut hx Bd.returns (hb hby dpi_60) hr
            · show Q_pi Z x1 p2 h0 n0 _ s₁.heap _
              rw [e0]
              exact ⟨_, rfl, N0, rfl⟩
          · skip
            have pre7 : ∀ t, Steps p.tables e below (s₁.setTop (mkF m 63 #[.val (.long x1), .second, .val (.int p2), .val (.int (p2 &&& (7 : Int32)))] [(.int (5 : Int32)), (.int (p2 &&& (7 : Int32)))])) t → Steps p.tables e below (s₁.setTop (entryFrame m #[(.long x1), (.int p2)] 4)) t := fun t k => pre6 t (by
              show Steps p.tables e below (s₁.setTop (mkF m 50 #[.val (.long x1), .second, .val (.int p2), .val (.int (p2 &&& (7 : Int32)))] [(.int (4 : Int32)), (.int (p2 &&& (7 : Int32)))])) _
              refine XS.icmpYes X0.here hx rfl (pc0 := 50) (pc' := 61) rfl (hb hby dpi_50) rfl (XT.ii_ne_t hc4) (by decide) (by decide) ?_
              show Steps p.tables e below (s₁.setTop (mkF m 61 #[.val (.long x1), .second, .val (.int p2), .val (.int (p2 &&& (7 : Int32)))] [])) _
              refine XS.iloadN X0.here hx rfl (hb hby dpi_61) rfl ?_
              show Steps p.tables e below (s₁.setTop (mkF m 62 #[.val (.long x1), .second, .val (.int p2), .val (.int (p2 &&& (7 : Int32)))] [(.int (p2 &&& (7 : Int32)))])) _
              refine XS.iconst X0.here hx rfl (hb hby dpi_62) ?_
              show Steps p.tables e below (s₁.setTop (mkF m 63 #[.val (.long x1), .second, .val (.int p2), .val (.int (p2 &&& (7 : Int32)))] [(.int (5 : Int32)), (.int (p2 &&& (7 : Int32)))])) _
              exact k)
            by_cases hc5 : (p2 &&& (7 : Int32)) = 5
            · skip
              have pre8 : ∀ t, Steps p.tables e below (s₁.setTop (mkF m 73 #[.val (.long x1), .second, .val (.int p2), .val (.int (p2 &&& (7 : Int32)))] [(.long ((65535 : Int64) + (x1 &&& (1 : Int64))))])) t → Steps p.tables e below (s₁.setTop (entryFrame m #[(.long x1), (.int p2)] 4)) t := fun t k => pre7 t (by
                show Steps p.tables e below (s₁.setTop (mkF m 63 #[.val (.long x1), .second, .val (.int p2), .val (.int (p2 &&& (7 : Int32)))] [(.int (5 : Int32)), (.int (p2 &&& (7 : Int32)))])) _
                refine XS.icmpNo X0.here hx rfl (hb hby dpi_63) rfl (XT.ii_ne_f hc5) ?_
                show Steps p.tables e below (s₁.setTop (mkF m 66 #[.val (.long x1), .second, .val (.int p2), .val (.int (p2 &&& (7 : Int32)))] [])) _
                refine X0.ldc2J hx hown (mvT hZ (hw _ (List.mem_of_getElem? (i := 15) rfl))) rfl (hb hby dpi_66) ?_
                show Steps p.tables e below (s₁.setTop (mkF m 69 #[.val (.long x1), .second, .val (.int p2), .val (.int (p2 &&& (7 : Int32)))] [(.long (65535 : Int64))])) _
                refine XT.lloadN X0.here hx rfl (hb hby dpi_69) rfl ?_
                show Steps p.tables e below (s₁.setTop (mkF m 70 #[.val (.long x1), .second, .val (.int p2), .val (.int (p2 &&& (7 : Int32)))] [(.long x1), (.long (65535 : Int64))])) _
                refine XT.lconst X0.here hx rfl (hb hby dpi_70) ?_
                show Steps p.tables e below (s₁.setTop (mkF m 71 #[.val (.long x1), .second, .val (.int p2), .val (.int (p2 &&& (7 : Int32)))] [(.long (1 : Int64)), (.long x1), (.long (65535 : Int64))])) _
                refine XT.land X0.here hx rfl (hb hby dpi_71) rfl ?_
                show Steps p.tables e below (s₁.setTop (mkF m 72 #[.val (.long x1), .second, .val (.int p2), .val (.int (p2 &&& (7 : Int32)))] [(.long (x1 &&& (1 : Int64))), (.long (65535 : Int64))])) _
                refine XT.ladd X0.here hx rfl (hb hby dpi_72) rfl ?_
                show Steps p.tables e below (s₁.setTop (mkF m 73 #[.val (.long x1), .second, .val (.int p2), .val (.int (p2 &&& (7 : Int32)))] [(.long ((65535 : Int64) + (x1 &&& (1 : Int64))))])) _
                exact k)
              obtain ⟨fs, hr, hrun, hended, hW, hsame⟩ := X0.leave (v := some (.long ((65535 : Int64) + (x1 &&& (1 : Int64))))) (fun h => by rw [Bd.returns] at h; cases h)
              refine ⟨_, _, pre8 _ ?_, hrun, hended, _, _, rfl, ?_, ⟨_, rfl⟩, hW, hsame.mono (by decide) (by decide)⟩
              · exact X0.lreturnOut hx Bd.returns (hb hby dpi_73) hr
              · show Q_pi Z x1 p2 h0 n0 _ s₁.heap _
                rw [e0]
                exact ⟨_, rfl, N0, rfl⟩
            · skip
              have pre8 : ∀ t, Steps p.tables e below (s₁.setTop (mkF m 77 #[.val (.long x1), .second, .val (.int p2), .val (.int (p2 &&& (7 : Int32)))] [(.int (6 : Int32)), (.int (p2 &&& (7 : Int32)))])) t → Steps p.tables e below (s₁.setTop (entryFrame m #[(.long x1), (.int p2)] 4)) t := fun t k => pre7 t (by
                show Steps p.tables e below (s₁.setTop (mkF m 63 #[.val (.long x1), .second, .val (.int p2), .val (.int (p2 &&& (7 : Int32)))] [(.int (5 : Int32)), (.int (p2 &&& (7 : Int32)))])) _
                refine XS.icmpYes X0.here hx rfl (pc0 := 63) (pc' := 74) rfl (hb hby dpi_63) rfl (XT.ii_ne_t hc5) (by decide) (by decide) ?_
                show Steps p.tables e below (s₁.setTop (mkF m 74 #[.val (.long x1), .second, .val (.int p2), .val (.int (p2 &&& (7 : Int32)))] [])) _
                refine XS.iloadN X0.here hx rfl (hb hby dpi_74) rfl ?_
                show Steps p.tables e below (s₁.setTop (mkF m 75 #[.val (.long x1), .second, .val (.int p2), .val (.int (p2 &&& (7 : Int32)))] [(.int (p2 &&& (7 : Int32)))])) _
                refine XS.bipush X0.here hx rfl (hb hby dpi_75) ?_
                show Steps p.tables e below (s₁.setTop (mkF m 77 #[.val (.long x1), .second, .val (.int p2), .val (.int (p2 &&& (7 : Int32)))] [(.int (6 : Int32)), (.int (p2 &&& (7 : Int32)))])) _
                exact k)
              by_cases hc6 : (p2 &&& (7 : Int32)) = 6
              · skip
                have pre9 : ∀ t, Steps p.tables e below (s₁.setTop (mkF m 87 #[.val (.long x1), .second, .val (.int p2), .val (.int (p2 &&& (7 : Int32)))] [(.long ((9223372036854775807 : Int64) - (x1 &&& (1 : Int64))))])) t → Steps p.tables e below (s₁.setTop (entryFrame m #[(.long x1), (.int p2)] 4)) t := fun t k => pre8 t (by
                  show Steps p.tables e below (s₁.setTop (mkF m 77 #[.val (.long x1), .second, .val (.int p2), .val (.int (p2 &&& (7 : Int32)))] [(.int (6 : Int32)), (.int (p2 &&& (7 : Int32)))])) _
                  refine XS.icmpNo X0.here hx rfl (hb hby dpi_77) rfl (XT.ii_ne_f hc6) ?_
                  show Steps p.tables e below (s₁.setTop (mkF m 80 #[.val (.long x1), .second, .val (.int p2), .val (.int (p2 &&& (7 : Int32)))] [])) _
                  refine X0.ldc2J hx hown (mvT hZ (hw _ (List.mem_of_getElem? (i := 18) rfl))) rfl (hb hby dpi_80) ?_
                  show Steps p.tables e below (s₁.setTop (mkF m 83 #[.val (.long x1), .second, .val (.int p2), .val (.int (p2 &&& (7 : Int32)))] [(.long (9223372036854775807 : Int64))])) _
                  refine XT.lloadN X0.here hx rfl (hb hby dpi_83) rfl ?_
                  show Steps p.tables e below (s₁.setTop (mkF m 84 #[.val (.long x1), .second, .val (.int p2), .val (.int (p2 &&& (7 : Int32)))] [(.long x1), (.long (9223372036854775807 : Int64))])) _
                  refine XT.lconst X0.here hx rfl (hb hby dpi_84) ?_
                  show Steps p.tables e below (s₁.setTop (mkF m 85 #[.val (.long x1), .second, .val (.int p2), .val (.int (p2 &&& (7 : Int32)))] [(.long (1 : Int64)), (.long x1), (.long (9223372036854775807 : Int64))])) _
                  refine XT.land X0.here hx rfl (hb hby dpi_85) rfl ?_
                  show Steps p.tables e below (s₁.setTop (mkF m 86 #[.val (.long x1), .second, .val (.int p2), .val (.int (p2 &&& (7 : Int32)))] [(.long (x1 &&& (1 : Int64))), (.long (9223372036854775807 : Int64))])) _
                  refine XT.lsub X0.here hx rfl (hb hby dpi_86) rfl ?_
                  show Steps p.tables e below (s₁.setTop (mkF m 87 #[.val (.long x1), .second, .val (.int p2), .val (.int (p2 &&& (7 : Int32)))] [(.long ((9223372036854775807 : Int64) - (x1 &&& (1 : Int64))))])) _
                  exact k)
                obtain ⟨fs, hr, hrun, hended, hW, hsame⟩ := X0.leave (v := some (.long ((9223372036854775807 : Int64) - (x1 &&& (1 : Int64))))) (fun h => by rw [Bd.returns] at h; cases h)
                refine ⟨_, _, pre9 _ ?_, hrun, hended, _, _, rfl, ?_, ⟨_, rfl⟩, hW, hsame.mono (by decide) (by decide)⟩
                · exact X0.lreturnOut hx Bd.returns (hb hby dpi_87) hr
                · show Q_pi Z x1 p2 h0 n0 _ s₁.heap _
                  rw [e0]
                  exact ⟨_, rfl, N0, rfl⟩
              · skip
                have pre9 : ∀ t, Steps p.tables e below (s₁.setTop (mkF m 93 #[.val (.long x1), .second, .val (.int p2), .val (.int (p2 &&& (7 : Int32)))] [(.long (x1 &&& (4294967295 : Int64)))])) t → Steps p.tables e below (s₁.setTop (entryFrame m #[(.long x1), (.int p2)] 4)) t := fun t k => pre8 t (by
                  show Steps p.tables e below (s₁.setTop (mkF m 77 #[.val (.long x1), .second, .val (.int p2), .val (.int (p2 &&& (7 : Int32)))] [(.int (6 : Int32)), (.int (p2 &&& (7 : Int32)))])) _
                  refine XS.icmpYes X0.here hx rfl (pc0 := 77) (pc' := 88) rfl (hb hby dpi_77) rfl (XT.ii_ne_t hc6) (by decide) (by decide) ?_
                  show Steps p.tables e below (s₁.setTop (mkF m 88 #[.val (.long x1), .second, .val (.int p2), .val (.int (p2 &&& (7 : Int32)))] [])) _
                  refine XT.lloadN X0.here hx rfl (hb hby dpi_88) rfl ?_
                  show Steps p.tables e below (s₁.setTop (mkF m 89 #[.val (.long x1), .second, .val (.int p2), .val (.int (p2 &&& (7 : Int32)))] [(.long x1)])) _
                  refine X0.ldc2J hx hown (mvT hZ (hw _ (List.mem_of_getElem? (i := 19) rfl))) rfl (hb hby dpi_89) ?_
                  show Steps p.tables e below (s₁.setTop (mkF m 92 #[.val (.long x1), .second, .val (.int p2), .val (.int (p2 &&& (7 : Int32)))] [(.long (4294967295 : Int64)), (.long x1)])) _
                  refine XT.land X0.here hx rfl (hb hby dpi_92) rfl ?_
                  show Steps p.tables e below (s₁.setTop (mkF m 93 #[.val (.long x1), .second, .val (.int p2), .val (.int (p2 &&& (7 : Int32)))] [(.long (x1 &&& (4294967295 : Int64)))])) _
                  exact k)
                obtain ⟨fs, hr, hrun, hended, hW, hsame⟩ := X0.leave (v := some (.long (x1 &&& (4294967295 : Int64)))) (fun h => by rw [Bd.returns] at h; cases h)
                refine ⟨_, _, pre9 _ ?_, hrun, hended, _, _, rfl, ?_, ⟨_, rfl⟩, hW, hsame.mono (by decide) (by decide)⟩
                · exact X0.lreturnOut hx Bd.returns (hb hby dpi_93) hr
                · show Q_pi Z x1 p2 h0 n0 _ s₁.heap _
                  rw [e0]
                  exact ⟨_, rfl, N0, rfl⟩
theorem dhe_0 : decode prog_115_method_3_code 0 = .ok (.lload_n 0, 1) := by decide +kernel
theorem dhe_1 : decode prog_115_method_3_code 1 = .ok (.ldc2_w 15, 3) := by decide +kernel
theorem dhe_4 : decode prog_115_method_3_code 4 = .ok (.lcmp, 1) := by decide +kernel
theorem dhe_5 : decode prog_115_method_3_code 5 = .ok (.ifCond .ge 7, 3) := by decide +kernel
theorem dhe_8 : decode prog_115_method_3_code 8 = .ok (.iconst 0, 1) := by decide +kernel
theorem dhe_9 : decode prog_115_method_3_code 9 = .ok (.goto 17, 3) := by decide +kernel
theorem dhe_12 : decode prog_115_method_3_code 12 = .ok (.lload_n 0, 1) := by decide +kernel
theorem dhe_13 : decode prog_115_method_3_code 13 = .ok (.ldc2_w 17, 3) := by decide +kernel
theorem dhe_16 : decode prog_115_method_3_code 16 = .ok (.lcmp, 1) := by decide +kernel
theorem dhe_17 : decode prog_115_method_3_code 17 = .ok (.ifCond .gt 7, 3) := by decide +kernel
theorem dhe_20 : decode prog_115_method_3_code 20 = .ok (.iconst 2, 1) := by decide +kernel
theorem dhe_21 : decode prog_115_method_3_code 21 = .ok (.goto 5, 3) := by decide +kernel
theorem dhe_24 : decode prog_115_method_3_code 24 = .ok (.bipush 8, 2) := by decide +kernel
theorem dhe_26 : decode prog_115_method_3_code 26 = .ok (.istore_n 3, 1) := by decide +kernel
theorem dhe_27 : decode prog_115_method_3_code 27 = .ok (.iconst 2, 1) := by decide +kernel
theorem dhe_28 : decode prog_115_method_3_code 28 = .ok (.iload_n 3, 1) := by decide +kernel
theorem dhe_29 : decode prog_115_method_3_code 29 = .ok (.iadd, 1) := by decide +kernel
theorem dhe_30 : decode prog_115_method_3_code 30 = .ok (.iload_n 2, 1) := by decide +kernel
theorem dhe_31 : decode prog_115_method_3_code 31 = .ok (.ifCond .eq 7, 3) := by decide +kernel
theorem dhe_34 : decode prog_115_method_3_code 34 = .ok (.iconst 4, 1) := by decide +kernel
theorem dhe_35 : decode prog_115_method_3_code 35 = .ok (.goto 4, 3) := by decide +kernel
theorem dhe_38 : decode prog_115_method_3_code 38 = .ok (.iconst 0, 1) := by decide +kernel
theorem dhe_39 : decode prog_115_method_3_code 39 = .ok (.iadd, 1) := by decide +kernel
theorem dhe_40 : decode prog_115_method_3_code 40 = .ok (.ireturn, 1) := by decide +kernel
theorem pn_he : plainName "com/example/terse_broker/tersebroker/websocket/Frames" = true := by first | (simp [plainName, overriddenIn]; done) | decide +kernel
theorem ef_he (m : MethodId) (x1 : Int64) (p2 : Int32) : entryFrame m #[(.long x1), (.int p2)] 4 = (mkF m 0 #[.val (.long x1), .second, .val (.int p2), .unset] []) := by first | (simp [entryFrame, mkF, argsToLocals, Value.category]; done) | rfl
def Q_he (Z : State) (x1 : Int64) (p2 : Int32) (h0 : Heap) (n0 : Nat) (v : Option Value) (h : Heap) (L : List Loc) : Prop := v = some (.int (own_hs x1 p2)) ∧ Fr n0 L ∧ h = h0
set_option maxRecDepth 65536 in
set_option maxHeartbeats 40000000 in
theorem rm_he (l : Launch) (Z : State) (a0 : Array Value) (hw : ∀ d ∈ tables_1, d.before a0 Z = true) (ws : List Jvm.Cond) (x1 : Int64) (p2 : Int32) (h0 : Heap) (n0 : Nat) (Z0 : n0 ≤ h0.size)  :
    MetFree l (⟨"com/example/terse_broker/tersebroker/websocket/Frames", "headSize", "(JZ)I"⟩ : MethodName) (head1 (Jvm.Cond.code (⟨"com/example/terse_broker/tersebroker/websocket/Frames", "headSize", "(JZ)I"⟩ : MethodName) prog_115_method_3_code 4 (some .int) :: ws) ({ frames := 0, cells := 0, slots := 0, locals := 0 } : Room)) (fun a U => a = #[(.long x1), (.int p2)] ∧ Z.Warmed39 U.vm ∧ U.heap = h0) (fun _ _ _ _ _ => True) (fun _ U o U' => ∃ v L, o = .returned v ∧ Q_he Z x1 p2 h0 n0 v U'.heap L ∧ FrameEnd U o U' L ({ frames := 0, cells := 0, slots := 0, locals := 0 } : Room).cells ({ frames := 0, cells := 0, slots := 0, locals := 0 } : Room).slots) := by
  refine MetFree.of_bodySF (plainFor_of_name pn_he) hisR ?_
  intro p e s m args below meth c s₁ Bd hml0 hP hK
  obtain ⟨rfl, hZ, hh⟩ := hP
  have hx := Bd.exec
  have hby := Bd.bytes
  have hml : c.maxLocals = 4 := hml0
  have hown : s.vm.findClass "com/example/terse_broker/tersebroker/websocket/Frames" = some m.cls := findClass_of_methodNamed Bd.named
  have hnm := (name_of_methodNamed Bd.named Bd.method).1
  have X0 : Stand p l e ({ frames := 0, cells := 0, slots := 0, locals := 0 } : Room) s m #[(.long x1), (.int p2)] below meth c s₁ [] 0 0 := Stand.of_body Bd
  have e0 : s₁.heap = h0 := by rw [← hh, Bd.state]; rfl
  have N0 := Fr.nil n0
  have pre0 : ∀ t, Steps p.tables e below (s₁.setTop (mkF m 0 #[.val (.long x1), .second, .val (.int p2), .unset] [])) t → Steps p.tables e below (s₁.setTop (entryFrame m #[(.long x1), (.int p2)] 4)) t := fun t k => castTop (ef_he m x1 p2) k
  have pre2 : ∀ t, Steps p.tables e below (s₁.setTop (mkF m 5 #[.val (.long x1), .second, .val (.int p2), .unset] [(.int (XT.cmpL x1 (126 : Int64)))])) t → Steps p.tables e below (s₁.setTop (entryFrame m #[(.long x1), (.int p2)] 4)) t := fun t k => pre0 t (by
    show Steps p.tables e below (s₁.setTop (mkF m 0 #[.val (.long x1), .second, .val (.int p2), .unset] [])) _
    refine XT.lloadN X0.here hx rfl (hb hby dhe_0) rfl ?_
    show Steps p.tables e below (s₁.setTop (mkF m 1 #[.val (.long x1), .second, .val (.int p2), .unset] [(.long x1)])) _
    refine X0.ldc2J hx hown (mvT hZ (hw _ (List.mem_of_getElem? (i := 9) rfl))) rfl (hb hby dhe_1) ?_
    show Steps p.tables e below (s₁.setTop (mkF m 4 #[.val (.long x1), .second, .val (.int p2), .unset] [(.long (126 : Int64)), (.long x1)])) _
    refine XT.lcmp X0.here hx rfl (hb hby dhe_4) rfl ?_
    show Steps p.tables e below (s₁.setTop (mkF m 5 #[.val (.long x1), .second, .val (.int p2), .unset] [(.int (XT.cmpL x1 (126 : Int64)))])) _
    exact k)
  by_cases h1 : x1 < 126
  · skip
    have pre3 : ∀ t, Steps p.tables e below (s₁.setTop (mkF m 31 #[.val (.long x1), .second, .val (.int p2), .val (.int (0 : Int32))] [(.int p2), (.int ((2 : Int32) + (0 : Int32)))])) t → Steps p.tables e below (s₁.setTop (entryFrame m #[(.long x1), (.int p2)] 4)) t := fun t k => pre2 t (by
      show Steps p.tables e below (s₁.setTop (mkF m 5 #[.val (.long x1), .second, .val (.int p2), .unset] [(.int (XT.cmpL x1 (126 : Int64)))])) _
      refine XS.ifNo X0.here hx rfl (hb hby dhe_5) rfl (XT.ll_ge_f h1) ?_
      show Steps p.tables e below (s₁.setTop (mkF m 8 #[.val (.long x1), .second, .val (.int p2), .unset] [])) _
      refine XS.iconst X0.here hx rfl (hb hby dhe_8) ?_
      show Steps p.tables e below (s₁.setTop (mkF m 9 #[.val (.long x1), .second, .val (.int p2), .unset] [(.int (0 : Int32))])) _
      refine XS.goto X0.here hx rfl (pc0 := 9) (pc' := 26) rfl (hb hby dhe_9) (by decide) (by decide) ?_
      show Steps p.tables e below (s₁.setTop (mkF m 26 #[.val (.long x1), .second, .val (.int p2), .unset] [(.int (0 : Int32))])) _
      refine XS.istoreN X0.here hx rfl (hb hby dhe_26) rfl (l' := #[.val (.long x1), .second, .val (.int p2), .val (.int (0 : Int32))]) rfl ?_
      show Steps p.tables e below (s₁.setTop (mkF m 27 #[.val (.long x1), .second, .val (.int p2), .val (.int (0 : Int32))] [])) _
      refine XS.iconst X0.here hx rfl (hb hby dhe_27) ?_
      show Steps p.tables e below (s₁.setTop (mkF m 28 #[.val (.long x1), .second, .val (.int p2), .val (.int (0 : Int32))] [(.int (2 : Int32))])) _
      refine XS.iloadN X0.here hx rfl (hb hby dhe_28) rfl ?_
      show Steps p.tables e below (s₁.setTop (mkF m 29 #[.val (.long x1), .second, .val (.int p2), .val (.int (0 : Int32))] [(.int (0 : Int32)), (.int (2 : Int32))])) _
      refine XS.iadd X0.here hx rfl (hb hby dhe_29) rfl ?_
      show Steps p.tables e below (s₁.setTop (mkF m 30 #[.val (.long x1), .second, .val (.int p2), .val (.int (0 : Int32))] [(.int ((2 : Int32) + (0 : Int32)))])) _
      refine XS.iloadN X0.here hx rfl (hb hby dhe_30) rfl ?_
      show Steps p.tables e below (s₁.setTop (mkF m 31 #[.val (.long x1), .second, .val (.int p2), .val (.int (0 : Int32))] [(.int p2), (.int ((2 : Int32) + (0 : Int32)))])) _
      exact k)
    by_cases hm : p2 = 0
    · skip
      have hf : own_hs x1 p2 = 2 := by unfold own_hs; rw [if_pos h1, if_pos hm]
      have hv : (((2 : Int32) + (0 : Int32)) + (0 : Int32)) = (2 : Int32) := by decide +kernel
      have pre4 : ∀ t, Steps p.tables e below (s₁.setTop (mkF m 40 #[.val (.long x1), .second, .val (.int p2), .val (.int (0 : Int32))] [(.int (2 : Int32))])) t → Steps p.tables e below (s₁.setTop (entryFrame m #[(.long x1), (.int p2)] 4)) t := fun t k => pre3 t (by
        show Steps p.tables e below (s₁.setTop (mkF m 31 #[.val (.long x1), .second, .val (.int p2), .val (.int (0 : Int32))] [(.int p2), (.int ((2 : Int32) + (0 : Int32)))])) _
        refine XS.ifYes X0.here hx rfl (pc0 := 31) (pc' := 38) rfl (hb hby dhe_31) rfl (XT.i0_eq_t hm) (by decide) (by decide) ?_
        show Steps p.tables e below (s₁.setTop (mkF m 38 #[.val (.long x1), .second, .val (.int p2), .val (.int (0 : Int32))] [(.int ((2 : Int32) + (0 : Int32)))])) _
        refine XS.iconst X0.here hx rfl (hb hby dhe_38) ?_
        show Steps p.tables e below (s₁.setTop (mkF m 39 #[.val (.long x1), .second, .val (.int p2), .val (.int (0 : Int32))] [(.int (0 : Int32)), (.int ((2 : Int32) + (0 : Int32)))])) _
        refine XS.iadd X0.here hx rfl (hb hby dhe_39) rfl ?_
        show Steps p.tables e below (s₁.setTop (mkF m 40 #[.val (.long x1), .second, .val (.int p2), .val (.int (0 : Int32))] [(.int (((2 : Int32) + (0 : Int32)) + (0 : Int32)))])) _
        rw [hv]
        show Steps p.tables e below (s₁.setTop (mkF m 40 #[.val (.long x1), .second, .val (.int p2), .val (.int (0 : Int32))] [(.int (2 : Int32))])) _
        exact k)
      obtain ⟨fs, hr, hrun, hended, hW, hsame⟩ := X0.leave (v := some (.int (2 : Int32))) (fun h => by rw [Bd.returns] at h; cases h)
      refine ⟨_, _, pre4 _ ?_, hrun, hended, _, _, rfl, ?_, ⟨_, rfl⟩, hW, hsame.mono (by decide) (by decide)⟩
      · exact retI X0 hx Bd.returns (hb hby dhe_40) hr
      · show Q_he Z x1 p2 h0 n0 _ s₁.heap _
        unfold Q_he; rw [hf]
        rw [e0]
        exact ⟨rfl, N0, rfl⟩
    · skip
      have hf : own_hs x1 p2 = 6 := by unfold own_hs; rw [if_pos h1, if_neg hm]
      have hv : (((2 : Int32) + (0 : Int32)) + (4 : Int32)) = (6 : Int32) := by decide +kernel
      have pre4 : ∀ t, Steps p.tables e below (s₁.setTop (mkF m 40 #[.val (.long x1), .second, .val (.int p2), .val (.int (0 : Int32))] [(.int (6 : Int32))])) t → Steps p.tables e below (s₁.setTop (entryFrame m #[(.long x1), (.int p2)] 4)) t := fun t k => pre3 t (by
        show Steps p.tables e below (s₁.setTop (mkF m 31 #[.val (.long x1), .second, .val (.int p2), .val (.int (0 : Int32))] [(.int p2), (.int ((2 : Int32) + (0 : Int32)))])) _
        refine XS.ifNo X0.here hx rfl (hb hby dhe_31) rfl (XT.i0_eq_f hm) ?_
        show Steps p.tables e below (s₁.setTop (mkF m 34 #[.val (.long x1), .second, .val (.int p2), .val (.int (0 : Int32))] [(.int ((2 : Int32) + (0 : Int32)))])) _
        refine XS.iconst X0.here hx rfl (hb hby dhe_34) ?_
        show Steps p.tables e below (s₁.setTop (mkF m 35 #[.val (.long x1), .second, .val (.int p2), .val (.int (0 : Int32))] [(.int (4 : Int32)), (.int ((2 : Int32) + (0 : Int32)))])) _
        refine XS.goto X0.here hx rfl (pc0 := 35) (pc' := 39) rfl (hb hby dhe_35) (by decide) (by decide) ?_
        show Steps p.tables e below (s₁.setTop (mkF m 39 #[.val (.long x1), .second, .val (.int p2), .val (.int (0 : Int32))] [(.int (4 : Int32)), (.int ((2 : Int32) + (0 : Int32)))])) _
        refine XS.iadd X0.here hx rfl (hb hby dhe_39) rfl ?_
        show Steps p.tables e below (s₁.setTop (mkF m 40 #[.val (.long x1), .second, .val (.int p2), .val (.int (0 : Int32))] [(.int (((2 : Int32) + (0 : Int32)) + (4 : Int32)))])) _
        rw [hv]
        show Steps p.tables e below (s₁.setTop (mkF m 40 #[.val (.long x1), .second, .val (.int p2), .val (.int (0 : Int32))] [(.int (6 : Int32))])) _
        exact k)
      obtain ⟨fs, hr, hrun, hended, hW, hsame⟩ := X0.leave (v := some (.int (6 : Int32))) (fun h => by rw [Bd.returns] at h; cases h)
      refine ⟨_, _, pre4 _ ?_, hrun, hended, _, _, rfl, ?_, ⟨_, rfl⟩, hW, hsame.mono (by decide) (by decide)⟩
      · exact retI X0 hx Bd.returns (hb hby dhe_40) hr
      · show Q_he Z x1 p2 h0 n0 _ s₁.heap _
        unfold Q_he; rw [hf]
        rw [e0]
        exact ⟨rfl, N0, rfl⟩
  · skip
    have pre3 : ∀ t, Steps p.tables e below (s₁.setTop (mkF m 17 #[.val (.long x1), .second, .val (.int p2), .unset] [(.int (XT.cmpL x1 (65535 : Int64)))])) t → Steps p.tables e below (s₁.setTop (entryFrame m #[(.long x1), (.int p2)] 4)) t := fun t k => pre2 t (by
      show Steps p.tables e below (s₁.setTop (mkF m 5 #[.val (.long x1), .second, .val (.int p2), .unset] [(.int (XT.cmpL x1 (126 : Int64)))])) _
      refine XS.ifYes X0.here hx rfl (pc0 := 5) (pc' := 12) rfl (hb hby dhe_5) rfl (XT.ll_ge_t h1) (by decide) (by decide) ?_
      show Steps p.tables e below (s₁.setTop (mkF m 12 #[.val (.long x1), .second, .val (.int p2), .unset] [])) _
      refine XT.lloadN X0.here hx rfl (hb hby dhe_12) rfl ?_
      show Steps p.tables e below (s₁.setTop (mkF m 13 #[.val (.long x1), .second, .val (.int p2), .unset] [(.long x1)])) _
      refine X0.ldc2J hx hown (mvT hZ (hw _ (List.mem_of_getElem? (i := 14) rfl))) rfl (hb hby dhe_13) ?_
      show Steps p.tables e below (s₁.setTop (mkF m 16 #[.val (.long x1), .second, .val (.int p2), .unset] [(.long (65535 : Int64)), (.long x1)])) _
      refine XT.lcmp X0.here hx rfl (hb hby dhe_16) rfl ?_
      show Steps p.tables e below (s₁.setTop (mkF m 17 #[.val (.long x1), .second, .val (.int p2), .unset] [(.int (XT.cmpL x1 (65535 : Int64)))])) _
      exact k)
    by_cases h2 : (65535 : Int64) < x1
    · skip
      have pre4 : ∀ t, Steps p.tables e below (s₁.setTop (mkF m 31 #[.val (.long x1), .second, .val (.int p2), .val (.int (8 : Int32))] [(.int p2), (.int ((2 : Int32) + (8 : Int32)))])) t → Steps p.tables e below (s₁.setTop (entryFrame m #[(.long x1), (.int p2)] 4)) t := fun t k => pre3 t (by
        show Steps p.tables e below (s₁.setTop (mkF m 17 #[.val (.long x1), .second, .val (.int p2), .unset] [(.int (XT.cmpL x1 (65535 : Int64)))])) _
        refine XS.ifYes X0.here hx rfl (pc0 := 17) (pc' := 24) rfl (hb hby dhe_17) rfl (XT.ll_gt_t h2) (by decide) (by decide) ?_
        show Steps p.tables e below (s₁.setTop (mkF m 24 #[.val (.long x1), .second, .val (.int p2), .unset] [])) _
        refine XS.bipush X0.here hx rfl (hb hby dhe_24) ?_
        show Steps p.tables e below (s₁.setTop (mkF m 26 #[.val (.long x1), .second, .val (.int p2), .unset] [(.int (8 : Int32))])) _
        refine XS.istoreN X0.here hx rfl (hb hby dhe_26) rfl (l' := #[.val (.long x1), .second, .val (.int p2), .val (.int (8 : Int32))]) rfl ?_
        show Steps p.tables e below (s₁.setTop (mkF m 27 #[.val (.long x1), .second, .val (.int p2), .val (.int (8 : Int32))] [])) _
        refine XS.iconst X0.here hx rfl (hb hby dhe_27) ?_
        show Steps p.tables e below (s₁.setTop (mkF m 28 #[.val (.long x1), .second, .val (.int p2), .val (.int (8 : Int32))] [(.int (2 : Int32))])) _
        refine XS.iloadN X0.here hx rfl (hb hby dhe_28) rfl ?_
        show Steps p.tables e below (s₁.setTop (mkF m 29 #[.val (.long x1), .second, .val (.int p2), .val (.int (8 : Int32))] [(.int (8 : Int32)), (.int (2 : Int32))])) _
        refine XS.iadd X0.here hx rfl (hb hby dhe_29) rfl ?_
        show Steps p.tables e below (s₁.setTop (mkF m 30 #[.val (.long x1), .second, .val (.int p2), .val (.int (8 : Int32))] [(.int ((2 : Int32) + (8 : Int32)))])) _
        refine XS.iloadN X0.here hx rfl (hb hby dhe_30) rfl ?_
        show Steps p.tables e below (s₁.setTop (mkF m 31 #[.val (.long x1), .second, .val (.int p2), .val (.int (8 : Int32))] [(.int p2), (.int ((2 : Int32) + (8 : Int32)))])) _
        exact k)
      by_cases hm : p2 = 0
      · skip
        have hf : own_hs x1 p2 = 10 := by unfold own_hs; rw [if_neg h1, if_pos h2, if_pos hm]
        have hv : (((2 : Int32) + (8 : Int32)) + (0 : Int32)) = (10 : Int32) := by decide +kernel
        have pre5 : ∀ t, Steps p.tables e below (s₁.setTop (mkF m 40 #[.val (.long x1), .second, .val (.int p2), .val (.int (8 : Int32))] [(.int (10 : Int32))])) t → Steps p.tables e below (s₁.setTop (entryFrame m #[(.long x1), (.int p2)] 4)) t := fun t k => pre4 t (by
          show Steps p.tables e below (s₁.setTop (mkF m 31 #[.val (.long x1), .second, .val (.int p2), .val (.int (8 : Int32))] [(.int p2), (.int ((2 : Int32) + (8 : Int32)))])) _
          refine XS.ifYes X0.here hx rfl (pc0 := 31) (pc' := 38) rfl (hb hby dhe_31) rfl (XT.i0_eq_t hm) (by decide) (by decide) ?_
          show Steps p.tables e below (s₁.setTop (mkF m 38 #[.val (.long x1), .second, .val (.int p2), .val (.int (8 : Int32))] [(.int ((2 : Int32) + (8 : Int32)))])) _
          refine XS.iconst X0.here hx rfl (hb hby dhe_38) ?_
          show Steps p.tables e below (s₁.setTop (mkF m 39 #[.val (.long x1), .second, .val (.int p2), .val (.int (8 : Int32))] [(.int (0 : Int32)), (.int ((2 : Int32) + (8 : Int32)))])) _
          refine XS.iadd X0.here hx rfl (hb hby dhe_39) rfl ?_
          show Steps p.tables e below (s₁.setTop (mkF m 40 #[.val (.long x1), .second, .val (.int p2), .val (.int (8 : Int32))] [(.int (((2 : Int32) + (8 : Int32)) + (0 : Int32)))])) _
          rw [hv]
          show Steps p.tables e below (s₁.setTop (mkF m 40 #[.val (.long x1), .second, .val (.int p2), .val (.int (8 : Int32))] [(.int (10 : Int32))])) _
          exact k)
        obtain ⟨fs, hr, hrun, hended, hW, hsame⟩ := X0.leave (v := some (.int (10 : Int32))) (fun h => by rw [Bd.returns] at h; cases h)
        refine ⟨_, _, pre5 _ ?_, hrun, hended, _, _, rfl, ?_, ⟨_, rfl⟩, hW, hsame.mono (by decide) (by decide)⟩
        · exact retI X0 hx Bd.returns (hb hby dhe_40) hr
        · show Q_he Z x1 p2 h0 n0 _ s₁.heap _
          unfold Q_he; rw [hf]
          rw [e0]
          exact ⟨rfl, N0, rfl⟩
      · skip
        have hf : own_hs x1 p2 = 14 := by unfold own_hs; rw [if_neg h1, if_pos h2, if_neg hm]
        have hv : (((2 : Int32) + (8 : Int32)) + (4 : Int32)) = (14 : Int32) := by decide +kernel
        have pre5 : ∀ t, Steps p.tables e below (s₁.setTop (mkF m 40 #[.val (.long x1), .second, .val (.int p2), .val (.int (8 : Int32))] [(.int (14 : Int32))])) t → Steps p.tables e below (s₁.setTop (entryFrame m #[(.long x1), (.int p2)] 4)) t := fun t k => pre4 t (by
          show Steps p.tables e below (s₁.setTop (mkF m 31 #[.val (.long x1), .second, .val (.int p2), .val (.int (8 : Int32))] [(.int p2), (.int ((2 : Int32) + (8 : Int32)))])) _
          refine XS.ifNo X0.here hx rfl (hb hby dhe_31) rfl (XT.i0_eq_f hm) ?_
          show Steps p.tables e below (s₁.setTop (mkF m 34 #[.val (.long x1), .second, .val (.int p2), .val (.int (8 : Int32))] [(.int ((2 : Int32) + (8 : Int32)))])) _
          refine XS.iconst X0.here hx rfl (hb hby dhe_34) ?_
          show Steps p.tables e below (s₁.setTop (mkF m 35 #[.val (.long x1), .second, .val (.int p2), .val (.int (8 : Int32))] [(.int (4 : Int32)), (.int ((2 : Int32) + (8 : Int32)))])) _
          refine XS.goto X0.here hx rfl (pc0 := 35) (pc' := 39) rfl (hb hby dhe_35) (by decide) (by decide) ?_
          show Steps p.tables e below (s₁.setTop (mkF m 39 #[.val (.long x1), .second, .val (.int p2), .val (.int (8 : Int32))] [(.int (4 : Int32)), (.int ((2 : Int32) + (8 : Int32)))])) _
          refine XS.iadd X0.here hx rfl (hb hby dhe_39) rfl ?_
          show Steps p.tables e below (s₁.setTop (mkF m 40 #[.val (.long x1), .second, .val (.int p2), .val (.int (8 : Int32))] [(.int (((2 : Int32) + (8 : Int32)) + (4 : Int32)))])) _
          rw [hv]
          show Steps p.tables e below (s₁.setTop (mkF m 40 #[.val (.long x1), .second, .val (.int p2), .val (.int (8 : Int32))] [(.int (14 : Int32))])) _
          exact k)
        obtain ⟨fs, hr, hrun, hended, hW, hsame⟩ := X0.leave (v := some (.int (14 : Int32))) (fun h => by rw [Bd.returns] at h; cases h)
        refine ⟨_, _, pre5 _ ?_, hrun, hended, _, _, rfl, ?_, ⟨_, rfl⟩, hW, hsame.mono (by decide) (by decide)⟩
        · exact retI X0 hx Bd.returns (hb hby dhe_40) hr
        · show Q_he Z x1 p2 h0 n0 _ s₁.heap _
          unfold Q_he; rw [hf]
          rw [e0]
          exact ⟨rfl, N0, rfl⟩
    · skip
      have pre4 : ∀ t, Steps p.tables e below (s₁.setTop (mkF m 31 #[.val (.long x1), .second, .val (.int p2), .val (.int (2 : Int32))] [(.int p2), (.int ((2 : Int32) + (2 : Int32)))])) t → Steps p.tables e below (s₁.setTop (entryFrame m #[(.long x1), (.int p2)] 4)) t := fun t k => pre3 t (by
        show Steps p.tables e below (s₁.setTop (mkF m 17 #[.val (.long x1), .second, .val (.int p2), .unset] [(.int (XT.cmpL x1 (65535 : Int64)))])) _
        refine XS.ifNo X0.here hx rfl (hb hby dhe_17) rfl (XT.ll_gt_f h2) ?_
        show Steps p.tables e below (s₁.setTop (mkF m 20 #[.val (.long x1), .second, .val (.int p2), .unset] [])) _
        refine XS.iconst X0.here hx rfl (hb hby dhe_20) ?_
        show Steps p.tables e below (s₁.setTop (mkF m 21 #[.val (.long x1), .second, .val (.int p2), .unset] [(.int (2 : Int32))])) _
        refine XS.goto X0.here hx rfl (pc0 := 21) (pc' := 26) rfl (hb hby dhe_21) (by decide) (by decide) ?_
        show Steps p.tables e below (s₁.setTop (mkF m 26 #[.val (.long x1), .second, .val (.int p2), .unset] [(.int (2 : Int32))])) _
        refine XS.istoreN X0.here hx rfl (hb hby dhe_26) rfl (l' := #[.val (.long x1), .second, .val (.int p2), .val (.int (2 : Int32))]) rfl ?_
        show Steps p.tables e below (s₁.setTop (mkF m 27 #[.val (.long x1), .second, .val (.int p2), .val (.int (2 : Int32))] [])) _
        refine XS.iconst X0.here hx rfl (hb hby dhe_27) ?_
        show Steps p.tables e below (s₁.setTop (mkF m 28 #[.val (.long x1), .second, .val (.int p2), .val (.int (2 : Int32))] [(.int (2 : Int32))])) _
        refine XS.iloadN X0.here hx rfl (hb hby dhe_28) rfl ?_
        show Steps p.tables e below (s₁.setTop (mkF m 29 #[.val (.long x1), .second, .val (.int p2), .val (.int (2 : Int32))] [(.int (2 : Int32)), (.int (2 : Int32))])) _
        refine XS.iadd X0.here hx rfl (hb hby dhe_29) rfl ?_
        show Steps p.tables e below (s₁.setTop (mkF m 30 #[.val (.long x1), .second, .val (.int p2), .val (.int (2 : Int32))] [(.int ((2 : Int32) + (2 : Int32)))])) _
        refine XS.iloadN X0.here hx rfl (hb hby dhe_30) rfl ?_
        show Steps p.tables e below (s₁.setTop (mkF m 31 #[.val (.long x1), .second, .val (.int p2), .val (.int (2 : Int32))] [(.int p2), (.int ((2 : Int32) + (2 : Int32)))])) _
        exact k)
      by_cases hm : p2 = 0
      · skip
        have hf : own_hs x1 p2 = 4 := by unfold own_hs; rw [if_neg h1, if_neg h2, if_pos hm]
        have hv : (((2 : Int32) + (2 : Int32)) + (0 : Int32)) = (4 : Int32) := by decide +kernel
        have pre5 : ∀ t, Steps p.tables e below (s₁.setTop (mkF m 40 #[.val (.long x1), .second, .val (.int p2), .val (.int (2 : Int32))] [(.int (4 : Int32))])) t → Steps p.tables e below (s₁.setTop (entryFrame m #[(.long x1), (.int p2)] 4)) t := fun t k => pre4 t (by
          show Steps p.tables e below (s₁.setTop (mkF m 31 #[.val (.long x1), .second, .val (.int p2), .val (.int (2 : Int32))] [(.int p2), (.int ((2 : Int32) + (2 : Int32)))])) _
          refine XS.ifYes X0.here hx rfl (pc0 := 31) (pc' := 38) rfl (hb hby dhe_31) rfl (XT.i0_eq_t hm) (by decide) (by decide) ?_
          show Steps p.tables e below (s₁.setTop (mkF m 38 #[.val (.long x1), .second, .val (.int p2), .val (.int (2 : Int32))] [(.int ((2 : Int32) + (2 : Int32)))])) _
          refine XS.iconst X0.here hx rfl (hb hby dhe_38) ?_
          show Steps p.tables e below (s₁.setTop (mkF m 39 #[.val (.long x1), .second, .val (.int p2), .val (.int (2 : Int32))] [(.int (0 : Int32)), (.int ((2 : Int32) + (2 : Int32)))])) _
          refine XS.iadd X0.here hx rfl (hb hby dhe_39) rfl ?_
          show Steps p.tables e below (s₁.setTop (mkF m 40 #[.val (.long x1), .second, .val (.int p2), .val (.int (2 : Int32))] [(.int (((2 : Int32) + (2 : Int32)) + (0 : Int32)))])) _
          rw [hv]
          show Steps p.tables e below (s₁.setTop (mkF m 40 #[.val (.long x1), .second, .val (.int p2), .val (.int (2 : Int32))] [(.int (4 : Int32))])) _
          exact k)
        obtain ⟨fs, hr, hrun, hended, hW, hsame⟩ := X0.leave (v := some (.int (4 : Int32))) (fun h => by rw [Bd.returns] at h; cases h)
        refine ⟨_, _, pre5 _ ?_, hrun, hended, _, _, rfl, ?_, ⟨_, rfl⟩, hW, hsame.mono (by decide) (by decide)⟩
        · exact retI X0 hx Bd.returns (hb hby dhe_40) hr
        · show Q_he Z x1 p2 h0 n0 _ s₁.heap _
          unfold Q_he; rw [hf]
          rw [e0]
          exact ⟨rfl, N0, rfl⟩
      · skip
        have hf : own_hs x1 p2 = 8 := by unfold own_hs; rw [if_neg h1, if_neg h2, if_neg hm]
        have hv : (((2 : Int32) + (2 : Int32)) + (4 : Int32)) = (8 : Int32) := by decide +kernel
        have pre5 : ∀ t, Steps p.tables e below (s₁.setTop (mkF m 40 #[.val (.long x1), .second, .val (.int p2), .val (.int (2 : Int32))] [(.int (8 : Int32))])) t → Steps p.tables e below (s₁.setTop (entryFrame m #[(.long x1), (.int p2)] 4)) t := fun t k => pre4 t (by
          show Steps p.tables e below (s₁.setTop (mkF m 31 #[.val (.long x1), .second, .val (.int p2), .val (.int (2 : Int32))] [(.int p2), (.int ((2 : Int32) + (2 : Int32)))])) _
          refine XS.ifNo X0.here hx rfl (hb hby dhe_31) rfl (XT.i0_eq_f hm) ?_
          show Steps p.tables e below (s₁.setTop (mkF m 34 #[.val (.long x1), .second, .val (.int p2), .val (.int (2 : Int32))] [(.int ((2 : Int32) + (2 : Int32)))])) _
          refine XS.iconst X0.here hx rfl (hb hby dhe_34) ?_
          show Steps p.tables e below (s₁.setTop (mkF m 35 #[.val (.long x1), .second, .val (.int p2), .val (.int (2 : Int32))] [(.int (4 : Int32)), (.int ((2 : Int32) + (2 : Int32)))])) _
          refine XS.goto X0.here hx rfl (pc0 := 35) (pc' := 39) rfl (hb hby dhe_35) (by decide) (by decide) ?_
          show Steps p.tables e below (s₁.setTop (mkF m 39 #[.val (.long x1), .second, .val (.int p2), .val (.int (2 : Int32))] [(.int (4 : Int32)), (.int ((2 : Int32) + (2 : Int32)))])) _
          refine XS.iadd X0.here hx rfl (hb hby dhe_39) rfl ?_
          show Steps p.tables e below (s₁.setTop (mkF m 40 #[.val (.long x1), .second, .val (.int p2), .val (.int (2 : Int32))] [(.int (((2 : Int32) + (2 : Int32)) + (4 : Int32)))])) _
          rw [hv]
          show Steps p.tables e below (s₁.setTop (mkF m 40 #[.val (.long x1), .second, .val (.int p2), .val (.int (2 : Int32))] [(.int (8 : Int32))])) _
          exact k)
        obtain ⟨fs, hr, hrun, hended, hW, hsame⟩ := X0.leave (v := some (.int (8 : Int32))) (fun h => by rw [Bd.returns] at h; cases h)
        refine ⟨_, _, pre5 _ ?_, hrun, hended, _, _, rfl, ?_, ⟨_, rfl⟩, hW, hsame.mono (by decide) (by decide)⟩
        · exact retI X0 hx Bd.returns (hb hby dhe_40) hr
        · show Q_he Z x1 p2 h0 n0 _ s₁.heap _
          unfold Q_he; rw [hf]
          rw [e0]
          exact ⟨rfl, N0, rfl⟩
theorem dex_0 : decode method_3_code 0 = .ok (.iconst 2, 1) := by decide +kernel
theorem dex_1 : decode method_3_code 1 = .ok (.istore_n 3, 1) := by decide +kernel
theorem dex_2 : decode method_3_code 2 = .ok (.lload_n 0, 1) := by decide +kernel
theorem dex_3 : decode method_3_code 3 = .ok (.ldc2_w 17, 3) := by decide +kernel
theorem dex_6 : decode method_3_code 6 = .ok (.lcmp, 1) := by decide +kernel
theorem dex_7 : decode method_3_code 7 = .ok (.ifCond .le 23, 3) := by decide +kernel
theorem dex_10 : decode method_3_code 10 = .ok (.lload_n 0, 1) := by decide +kernel
theorem dex_11 : decode method_3_code 11 = .ok (.ldc2_w 19, 3) := by decide +kernel
theorem dex_14 : decode method_3_code 14 = .ok (.lcmp, 1) := by decide +kernel
theorem dex_15 : decode method_3_code 15 = .ok (.ifCond .le 11, 3) := by decide +kernel
theorem dex_18 : decode method_3_code 18 = .ok (.iload_n 3, 1) := by decide +kernel
theorem dex_19 : decode method_3_code 19 = .ok (.bipush 8, 2) := by decide +kernel
theorem dex_21 : decode method_3_code 21 = .ok (.iadd, 1) := by decide +kernel
theorem dex_22 : decode method_3_code 22 = .ok (.istore_n 3, 1) := by decide +kernel
theorem dex_23 : decode method_3_code 23 = .ok (.goto 7, 3) := by decide +kernel
theorem dex_26 : decode method_3_code 26 = .ok (.iload_n 3, 1) := by decide +kernel
theorem dex_27 : decode method_3_code 27 = .ok (.iconst 2, 1) := by decide +kernel
theorem dex_28 : decode method_3_code 28 = .ok (.iadd, 1) := by decide +kernel
theorem dex_29 : decode method_3_code 29 = .ok (.istore_n 3, 1) := by decide +kernel
theorem dex_30 : decode method_3_code 30 = .ok (.iload_n 2, 1) := by decide +kernel
theorem dex_31 : decode method_3_code 31 = .ok (.ifCond .eq 7, 3) := by decide +kernel
theorem dex_34 : decode method_3_code 34 = .ok (.iload_n 3, 1) := by decide +kernel
theorem dex_35 : decode method_3_code 35 = .ok (.iconst 4, 1) := by decide +kernel
theorem dex_36 : decode method_3_code 36 = .ok (.iadd, 1) := by decide +kernel
theorem dex_37 : decode method_3_code 37 = .ok (.istore_n 3, 1) := by decide +kernel
theorem dex_38 : decode method_3_code 38 = .ok (.iload_n 3, 1) := by decide +kernel
theorem dex_39 : decode method_3_code 39 = .ok (.ireturn, 1) := by decide +kernel
theorem pn_ex : plainName "com/example/terse_broker/tersebroker/websocket/FramesHeadSize113PinLaw" = true := by first | (simp [plainName, overriddenIn]; done) | decide +kernel
theorem ef_ex (m : MethodId) (x1 : Int64) (p2 : Int32) : entryFrame m #[(.long x1), (.int p2)] 4 = (mkF m 0 #[.val (.long x1), .second, .val (.int p2), .unset] []) := by first | (simp [entryFrame, mkF, argsToLocals, Value.category]; done) | rfl
def Q_ex (Z : State) (x1 : Int64) (p2 : Int32) (h0 : Heap) (n0 : Nat) (v : Option Value) (h : Heap) (L : List Loc) : Prop := v = some (.int (own_hs x1 p2)) ∧ Fr n0 L ∧ h = h0
set_option maxRecDepth 65536 in
set_option maxHeartbeats 40000000 in
theorem rm_ex (l : Launch) (Z : State) (a0 : Array Value) (hw : ∀ d ∈ tables_1, d.before a0 Z = true) (ws : List Jvm.Cond) (x1 : Int64) (p2 : Int32) (h0 : Heap) (n0 : Nat) (Z0 : n0 ≤ h0.size)  :
    MetFree l (⟨"com/example/terse_broker/tersebroker/websocket/FramesHeadSize113PinLaw", "expected", "(JZ)I"⟩ : MethodName) (head1 (Jvm.Cond.code (⟨"com/example/terse_broker/tersebroker/websocket/FramesHeadSize113PinLaw", "expected", "(JZ)I"⟩ : MethodName) method_3_code 4 (some .int) :: ws) ({ frames := 0, cells := 0, slots := 0, locals := 0 } : Room)) (fun a U => a = #[(.long x1), (.int p2)] ∧ Z.Warmed39 U.vm ∧ U.heap = h0) (fun _ _ _ _ _ => True) (fun _ U o U' => ∃ v L, o = .returned v ∧ Q_ex Z x1 p2 h0 n0 v U'.heap L ∧ FrameEnd U o U' L ({ frames := 0, cells := 0, slots := 0, locals := 0 } : Room).cells ({ frames := 0, cells := 0, slots := 0, locals := 0 } : Room).slots) := by
  refine MetFree.of_bodySF (plainFor_of_name pn_ex) hisR ?_
  intro p e s m args below meth c s₁ Bd hml0 hP hK
  obtain ⟨rfl, hZ, hh⟩ := hP
  have hx := Bd.exec
  have hby := Bd.bytes
  have hml : c.maxLocals = 4 := hml0
  have hown : s.vm.findClass "com/example/terse_broker/tersebroker/websocket/FramesHeadSize113PinLaw" = some m.cls := findClass_of_methodNamed Bd.named
  have hnm := (name_of_methodNamed Bd.named Bd.method).1
  have X0 : Stand p l e ({ frames := 0, cells := 0, slots := 0, locals := 0 } : Room) s m #[(.long x1), (.int p2)] below meth c s₁ [] 0 0 := Stand.of_body Bd
  have e0 : s₁.heap = h0 := by rw [← hh, Bd.state]; rfl
  have N0 := Fr.nil n0
  have pre0 : ∀ t, Steps p.tables e below (s₁.setTop (mkF m 0 #[.val (.long x1), .second, .val (.int p2), .unset] [])) t → Steps p.tables e below (s₁.setTop (entryFrame m #[(.long x1), (.int p2)] 4)) t := fun t k => castTop (ef_ex m x1 p2) k
  have pre2 : ∀ t, Steps p.tables e below (s₁.setTop (mkF m 7 #[.val (.long x1), .second, .val (.int p2), .val (.int (2 : Int32))] [(.int (XT.cmpL x1 (125 : Int64)))])) t → Steps p.tables e below (s₁.setTop (entryFrame m #[(.long x1), (.int p2)] 4)) t := fun t k => pre0 t (by
    show Steps p.tables e below (s₁.setTop (mkF m 0 #[.val (.long x1), .second, .val (.int p2), .unset] [])) _
    refine XS.iconst X0.here hx rfl (hb hby dex_0) ?_
    show Steps p.tables e below (s₁.setTop (mkF m 1 #[.val (.long x1), .second, .val (.int p2), .unset] [(.int (2 : Int32))])) _
    refine XS.istoreN X0.here hx rfl (hb hby dex_1) rfl (l' := #[.val (.long x1), .second, .val (.int p2), .val (.int (2 : Int32))]) rfl ?_
    show Steps p.tables e below (s₁.setTop (mkF m 2 #[.val (.long x1), .second, .val (.int p2), .val (.int (2 : Int32))] [])) _
    refine XT.lloadN X0.here hx rfl (hb hby dex_2) rfl ?_
    show Steps p.tables e below (s₁.setTop (mkF m 3 #[.val (.long x1), .second, .val (.int p2), .val (.int (2 : Int32))] [(.long x1)])) _
    refine X0.ldc2J hx hown (mvT hZ (hw _ (List.mem_of_getElem? (i := 13) rfl))) rfl (hb hby dex_3) ?_
    show Steps p.tables e below (s₁.setTop (mkF m 6 #[.val (.long x1), .second, .val (.int p2), .val (.int (2 : Int32))] [(.long (125 : Int64)), (.long x1)])) _
    refine XT.lcmp X0.here hx rfl (hb hby dex_6) rfl ?_
    show Steps p.tables e below (s₁.setTop (mkF m 7 #[.val (.long x1), .second, .val (.int p2), .val (.int (2 : Int32))] [(.int (XT.cmpL x1 (125 : Int64)))])) _
    exact k)
  by_cases hz : (125 : Int64) < x1
  · skip
    have h1 : ¬ x1 < 126 := fun q => absurd hz ((own_126 x1).mpr q)
    have pre3 : ∀ t, Steps p.tables e below (s₁.setTop (mkF m 15 #[.val (.long x1), .second, .val (.int p2), .val (.int (2 : Int32))] [(.int (XT.cmpL x1 (65535 : Int64)))])) t → Steps p.tables e below (s₁.setTop (entryFrame m #[(.long x1), (.int p2)] 4)) t := fun t k => pre2 t (by
      show Steps p.tables e below (s₁.setTop (mkF m 7 #[.val (.long x1), .second, .val (.int p2), .val (.int (2 : Int32))] [(.int (XT.cmpL x1 (125 : Int64)))])) _
      refine XS.ifNo X0.here hx rfl (hb hby dex_7) rfl (XT.ll_le_f hz) ?_
      show Steps p.tables e below (s₁.setTop (mkF m 10 #[.val (.long x1), .second, .val (.int p2), .val (.int (2 : Int32))] [])) _
      refine XT.lloadN X0.here hx rfl (hb hby dex_10) rfl ?_
      show Steps p.tables e below (s₁.setTop (mkF m 11 #[.val (.long x1), .second, .val (.int p2), .val (.int (2 : Int32))] [(.long x1)])) _
      refine X0.ldc2J hx hown (mvT hZ (hw _ (List.mem_of_getElem? (i := 15) rfl))) rfl (hb hby dex_11) ?_
      show Steps p.tables e below (s₁.setTop (mkF m 14 #[.val (.long x1), .second, .val (.int p2), .val (.int (2 : Int32))] [(.long (65535 : Int64)), (.long x1)])) _
      refine XT.lcmp X0.here hx rfl (hb hby dex_14) rfl ?_
      show Steps p.tables e below (s₁.setTop (mkF m 15 #[.val (.long x1), .second, .val (.int p2), .val (.int (2 : Int32))] [(.int (XT.cmpL x1 (65535 : Int64)))])) _
      exact k)
    by_cases h2 : (65535 : Int64) < x1
    · skip
      have pre4 : ∀ t, Steps p.tables e below (s₁.setTop (mkF m 31 #[.val (.long x1), .second, .val (.int p2), .val (.int ((2 : Int32) + (8 : Int32)))] [(.int p2)])) t → Steps p.tables e below (s₁.setTop (entryFrame m #[(.long x1), (.int p2)] 4)) t := fun t k => pre3 t (by
        show Steps p.tables e below (s₁.setTop (mkF m 15 #[.val (.long x1), .second, .val (.int p2), .val (.int (2 : Int32))] [(.int (XT.cmpL x1 (65535 : Int64)))])) _
        refine XS.ifNo X0.here hx rfl (hb hby dex_15) rfl (XT.ll_le_f h2) ?_
        show Steps p.tables e below (s₁.setTop (mkF m 18 #[.val (.long x1), .second, .val (.int p2), .val (.int (2 : Int32))] [])) _
        refine XS.iloadN X0.here hx rfl (hb hby dex_18) rfl ?_
        show Steps p.tables e below (s₁.setTop (mkF m 19 #[.val (.long x1), .second, .val (.int p2), .val (.int (2 : Int32))] [(.int (2 : Int32))])) _
        refine XS.bipush X0.here hx rfl (hb hby dex_19) ?_
        show Steps p.tables e below (s₁.setTop (mkF m 21 #[.val (.long x1), .second, .val (.int p2), .val (.int (2 : Int32))] [(.int (8 : Int32)), (.int (2 : Int32))])) _
        refine XS.iadd X0.here hx rfl (hb hby dex_21) rfl ?_
        show Steps p.tables e below (s₁.setTop (mkF m 22 #[.val (.long x1), .second, .val (.int p2), .val (.int (2 : Int32))] [(.int ((2 : Int32) + (8 : Int32)))])) _
        refine XS.istoreN X0.here hx rfl (hb hby dex_22) rfl (l' := #[.val (.long x1), .second, .val (.int p2), .val (.int ((2 : Int32) + (8 : Int32)))]) rfl ?_
        show Steps p.tables e below (s₁.setTop (mkF m 23 #[.val (.long x1), .second, .val (.int p2), .val (.int ((2 : Int32) + (8 : Int32)))] [])) _
        refine XS.goto X0.here hx rfl (pc0 := 23) (pc' := 30) rfl (hb hby dex_23) (by decide) (by decide) ?_
        show Steps p.tables e below (s₁.setTop (mkF m 30 #[.val (.long x1), .second, .val (.int p2), .val (.int ((2 : Int32) + (8 : Int32)))] [])) _
        refine XS.iloadN X0.here hx rfl (hb hby dex_30) rfl ?_
        show Steps p.tables e below (s₁.setTop (mkF m 31 #[.val (.long x1), .second, .val (.int p2), .val (.int ((2 : Int32) + (8 : Int32)))] [(.int p2)])) _
        exact k)
      by_cases hm : p2 = 0
      · skip
        have hf : own_hs x1 p2 = 10 := by unfold own_hs; rw [if_neg h1, if_pos h2, if_pos hm]
        have hv : ((2 : Int32) + (8 : Int32)) = (10 : Int32) := by decide +kernel
        have pre5 : ∀ t, Steps p.tables e below (s₁.setTop (mkF m 39 #[.val (.long x1), .second, .val (.int p2), .val (.int ((2 : Int32) + (8 : Int32)))] [(.int (10 : Int32))])) t → Steps p.tables e below (s₁.setTop (entryFrame m #[(.long x1), (.int p2)] 4)) t := fun t k => pre4 t (by
          show Steps p.tables e below (s₁.setTop (mkF m 31 #[.val (.long x1), .second, .val (.int p2), .val (.int ((2 : Int32) + (8 : Int32)))] [(.int p2)])) _
          refine XS.ifYes X0.here hx rfl (pc0 := 31) (pc' := 38) rfl (hb hby dex_31) rfl (XT.i0_eq_t hm) (by decide) (by decide) ?_
          show Steps p.tables e below (s₁.setTop (mkF m 38 #[.val (.long x1), .second, .val (.int p2), .val (.int ((2 : Int32) + (8 : Int32)))] [])) _
          refine XS.iloadN X0.here hx rfl (hb hby dex_38) rfl ?_
          show Steps p.tables e below (s₁.setTop (mkF m 39 #[.val (.long x1), .second, .val (.int p2), .val (.int ((2 : Int32) + (8 : Int32)))] [(.int ((2 : Int32) + (8 : Int32)))])) _
          rw [hv]
          show Steps p.tables e below (s₁.setTop (mkF m 39 #[.val (.long x1), .second, .val (.int p2), .val (.int ((2 : Int32) + (8 : Int32)))] [(.int (10 : Int32))])) _
          exact k)
        obtain ⟨fs, hr, hrun, hended, hW, hsame⟩ := X0.leave (v := some (.int (10 : Int32))) (fun h => by rw [Bd.returns] at h; cases h)
        refine ⟨_, _, pre5 _ ?_, hrun, hended, _, _, rfl, ?_, ⟨_, rfl⟩, hW, hsame.mono (by decide) (by decide)⟩
        · exact retI X0 hx Bd.returns (hb hby dex_39) hr
        · show Q_ex Z x1 p2 h0 n0 _ s₁.heap _
          unfold Q_ex; rw [hf]
          rw [e0]
          exact ⟨rfl, N0, rfl⟩
      · skip
        have hf : own_hs x1 p2 = 14 := by unfold own_hs; rw [if_neg h1, if_pos h2, if_neg hm]
        have hv : (((2 : Int32) + (8 : Int32)) + (4 : Int32)) = (14 : Int32) := by decide +kernel
        have pre5 : ∀ t, Steps p.tables e below (s₁.setTop (mkF m 39 #[.val (.long x1), .second, .val (.int p2), .val (.int (((2 : Int32) + (8 : Int32)) + (4 : Int32)))] [(.int (14 : Int32))])) t → Steps p.tables e below (s₁.setTop (entryFrame m #[(.long x1), (.int p2)] 4)) t := fun t k => pre4 t (by
          show Steps p.tables e below (s₁.setTop (mkF m 31 #[.val (.long x1), .second, .val (.int p2), .val (.int ((2 : Int32) + (8 : Int32)))] [(.int p2)])) _
          refine XS.ifNo X0.here hx rfl (hb hby dex_31) rfl (XT.i0_eq_f hm) ?_
          show Steps p.tables e below (s₁.setTop (mkF m 34 #[.val (.long x1), .second, .val (.int p2), .val (.int ((2 : Int32) + (8 : Int32)))] [])) _
          refine XS.iloadN X0.here hx rfl (hb hby dex_34) rfl ?_
          show Steps p.tables e below (s₁.setTop (mkF m 35 #[.val (.long x1), .second, .val (.int p2), .val (.int ((2 : Int32) + (8 : Int32)))] [(.int ((2 : Int32) + (8 : Int32)))])) _
          refine XS.iconst X0.here hx rfl (hb hby dex_35) ?_
          show Steps p.tables e below (s₁.setTop (mkF m 36 #[.val (.long x1), .second, .val (.int p2), .val (.int ((2 : Int32) + (8 : Int32)))] [(.int (4 : Int32)), (.int ((2 : Int32) + (8 : Int32)))])) _
          refine XS.iadd X0.here hx rfl (hb hby dex_36) rfl ?_
          show Steps p.tables e below (s₁.setTop (mkF m 37 #[.val (.long x1), .second, .val (.int p2), .val (.int ((2 : Int32) + (8 : Int32)))] [(.int (((2 : Int32) + (8 : Int32)) + (4 : Int32)))])) _
          refine XS.istoreN X0.here hx rfl (hb hby dex_37) rfl (l' := #[.val (.long x1), .second, .val (.int p2), .val (.int (((2 : Int32) + (8 : Int32)) + (4 : Int32)))]) rfl ?_
          show Steps p.tables e below (s₁.setTop (mkF m 38 #[.val (.long x1), .second, .val (.int p2), .val (.int (((2 : Int32) + (8 : Int32)) + (4 : Int32)))] [])) _
          refine XS.iloadN X0.here hx rfl (hb hby dex_38) rfl ?_
          show Steps p.tables e below (s₁.setTop (mkF m 39 #[.val (.long x1), .second, .val (.int p2), .val (.int (((2 : Int32) + (8 : Int32)) + (4 : Int32)))] [(.int (((2 : Int32) + (8 : Int32)) + (4 : Int32)))])) _
          rw [hv]
          show Steps p.tables e below (s₁.setTop (mkF m 39 #[.val (.long x1), .second, .val (.int p2), .val (.int (((2 : Int32) + (8 : Int32)) + (4 : Int32)))] [(.int (14 : Int32))])) _
          exact k)
        obtain ⟨fs, hr, hrun, hended, hW, hsame⟩ := X0.leave (v := some (.int (14 : Int32))) (fun h => by rw [Bd.returns] at h; cases h)
        refine ⟨_, _, pre5 _ ?_, hrun, hended, _, _, rfl, ?_, ⟨_, rfl⟩, hW, hsame.mono (by decide) (by decide)⟩
        · exact retI X0 hx Bd.returns (hb hby dex_39) hr
        · show Q_ex Z x1 p2 h0 n0 _ s₁.heap _
          unfold Q_ex; rw [hf]
          rw [e0]
          exact ⟨rfl, N0, rfl⟩
    · skip
      have pre4 : ∀ t, Steps p.tables e below (s₁.setTop (mkF m 31 #[.val (.long x1), .second, .val (.int p2), .val (.int ((2 : Int32) + (2 : Int32)))] [(.int p2)])) t → Steps p.tables e below (s₁.setTop (entryFrame m #[(.long x1), (.int p2)] 4)) t := fun t k => pre3 t (by
        show Steps p.tables e below (s₁.setTop (mkF m 15 #[.val (.long x1), .second, .val (.int p2), .val (.int (2 : Int32))] [(.int (XT.cmpL x1 (65535 : Int64)))])) _
        refine XS.ifYes X0.here hx rfl (pc0 := 15) (pc' := 26) rfl (hb hby dex_15) rfl (XT.ll_le_t h2) (by decide) (by decide) ?_
        show Steps p.tables e below (s₁.setTop (mkF m 26 #[.val (.long x1), .second, .val (.int p2), .val (.int (2 : Int32))] [])) _
        refine XS.iloadN X0.here hx rfl (hb hby dex_26) rfl ?_
        show Steps p.tables e below (s₁.setTop (mkF m 27 #[.val (.long x1), .second, .val (.int p2), .val (.int (2 : Int32))] [(.int (2 : Int32))])) _
        refine XS.iconst X0.here hx rfl (hb hby dex_27) ?_
        show Steps p.tables e below (s₁.setTop (mkF m 28 #[.val (.long x1), .second, .val (.int p2), .val (.int (2 : Int32))] [(.int (2 : Int32)), (.int (2 : Int32))])) _
        refine XS.iadd X0.here hx rfl (hb hby dex_28) rfl ?_
        show Steps p.tables e below (s₁.setTop (mkF m 29 #[.val (.long x1), .second, .val (.int p2), .val (.int (2 : Int32))] [(.int ((2 : Int32) + (2 : Int32)))])) _
        refine XS.istoreN X0.here hx rfl (hb hby dex_29) rfl (l' := #[.val (.long x1), .second, .val (.int p2), .val (.int ((2 : Int32) + (2 : Int32)))]) rfl ?_
        show Steps p.tables e below (s₁.setTop (mkF m 30 #[.val (.long x1), .second, .val (.int p2), .val (.int ((2 : Int32) + (2 : Int32)))] [])) _
        refine XS.iloadN X0.here hx rfl (hb hby dex_30) rfl ?_
        show Steps p.tables e below (s₁.setTop (mkF m 31 #[.val (.long x1), .second, .val (.int p2), .val (.int ((2 : Int32) + (2 : Int32)))] [(.int p2)])) _
        exact k)
      by_cases hm : p2 = 0
      · skip
        have hf : own_hs x1 p2 = 4 := by unfold own_hs; rw [if_neg h1, if_neg h2, if_pos hm]
        have hv : ((2 : Int32) + (2 : Int32)) = (4 : Int32) := by decide +kernel
        have pre5 : ∀ t, Steps p.tables e below (s₁.setTop (mkF m 39 #[.val (.long x1), .second, .val (.int p2), .val (.int ((2 : Int32) + (2 : Int32)))] [(.int (4 : Int32))])) t → Steps p.tables e below (s₁.setTop (entryFrame m #[(.long x1), (.int p2)] 4)) t := fun t k => pre4 t (by
          show Steps p.tables e below (s₁.setTop (mkF m 31 #[.val (.long x1), .second, .val (.int p2), .val (.int ((2 : Int32) + (2 : Int32)))] [(.int p2)])) _
          refine XS.ifYes X0.here hx rfl (pc0 := 31) (pc' := 38) rfl (hb hby dex_31) rfl (XT.i0_eq_t hm) (by decide) (by decide) ?_
          show Steps p.tables e below (s₁.setTop (mkF m 38 #[.val (.long x1), .second, .val (.int p2), .val (.int ((2 : Int32) + (2 : Int32)))] [])) _
          refine XS.iloadN X0.here hx rfl (hb hby dex_38) rfl ?_
          show Steps p.tables e below (s₁.setTop (mkF m 39 #[.val (.long x1), .second, .val (.int p2), .val (.int ((2 : Int32) + (2 : Int32)))] [(.int ((2 : Int32) + (2 : Int32)))])) _
          rw [hv]
          show Steps p.tables e below (s₁.setTop (mkF m 39 #[.val (.long x1), .second, .val (.int p2), .val (.int ((2 : Int32) + (2 : Int32)))] [(.int (4 : Int32))])) _
          exact k)
        obtain ⟨fs, hr, hrun, hended, hW, hsame⟩ := X0.leave (v := some (.int (4 : Int32))) (fun h => by rw [Bd.returns] at h; cases h)
        refine ⟨_, _, pre5 _ ?_, hrun, hended, _, _, rfl, ?_, ⟨_, rfl⟩, hW, hsame.mono (by decide) (by decide)⟩
        · exact retI X0 hx Bd.returns (hb hby dex_39) hr
        · show Q_ex Z x1 p2 h0 n0 _ s₁.heap _
          unfold Q_ex; rw [hf]
          rw [e0]
          exact ⟨rfl, N0, rfl⟩
      · skip
        have hf : own_hs x1 p2 = 8 := by unfold own_hs; rw [if_neg h1, if_neg h2, if_neg hm]
        have hv : (((2 : Int32) + (2 : Int32)) + (4 : Int32)) = (8 : Int32) := by decide +kernel
        have pre5 : ∀ t, Steps p.tables e below (s₁.setTop (mkF m 39 #[.val (.long x1), .second, .val (.int p2), .val (.int (((2 : Int32) + (2 : Int32)) + (4 : Int32)))] [(.int (8 : Int32))])) t → Steps p.tables e below (s₁.setTop (entryFrame m #[(.long x1), (.int p2)] 4)) t := fun t k => pre4 t (by
          show Steps p.tables e below (s₁.setTop (mkF m 31 #[.val (.long x1), .second, .val (.int p2), .val (.int ((2 : Int32) + (2 : Int32)))] [(.int p2)])) _
          refine XS.ifNo X0.here hx rfl (hb hby dex_31) rfl (XT.i0_eq_f hm) ?_
          show Steps p.tables e below (s₁.setTop (mkF m 34 #[.val (.long x1), .second, .val (.int p2), .val (.int ((2 : Int32) + (2 : Int32)))] [])) _
          refine XS.iloadN X0.here hx rfl (hb hby dex_34) rfl ?_
          show Steps p.tables e below (s₁.setTop (mkF m 35 #[.val (.long x1), .second, .val (.int p2), .val (.int ((2 : Int32) + (2 : Int32)))] [(.int ((2 : Int32) + (2 : Int32)))])) _
          refine XS.iconst X0.here hx rfl (hb hby dex_35) ?_
          show Steps p.tables e below (s₁.setTop (mkF m 36 #[.val (.long x1), .second, .val (.int p2), .val (.int ((2 : Int32) + (2 : Int32)))] [(.int (4 : Int32)), (.int ((2 : Int32) + (2 : Int32)))])) _
          refine XS.iadd X0.here hx rfl (hb hby dex_36) rfl ?_
          show Steps p.tables e below (s₁.setTop (mkF m 37 #[.val (.long x1), .second, .val (.int p2), .val (.int ((2 : Int32) + (2 : Int32)))] [(.int (((2 : Int32) + (2 : Int32)) + (4 : Int32)))])) _
          refine XS.istoreN X0.here hx rfl (hb hby dex_37) rfl (l' := #[.val (.long x1), .second, .val (.int p2), .val (.int (((2 : Int32) + (2 : Int32)) + (4 : Int32)))]) rfl ?_
          show Steps p.tables e below (s₁.setTop (mkF m 38 #[.val (.long x1), .second, .val (.int p2), .val (.int (((2 : Int32) + (2 : Int32)) + (4 : Int32)))] [])) _
          refine XS.iloadN X0.here hx rfl (hb hby dex_38) rfl ?_
          show Steps p.tables e below (s₁.setTop (mkF m 39 #[.val (.long x1), .second, .val (.int p2), .val (.int (((2 : Int32) + (2 : Int32)) + (4 : Int32)))] [(.int (((2 : Int32) + (2 : Int32)) + (4 : Int32)))])) _
          rw [hv]
          show Steps p.tables e below (s₁.setTop (mkF m 39 #[.val (.long x1), .second, .val (.int p2), .val (.int (((2 : Int32) + (2 : Int32)) + (4 : Int32)))] [(.int (8 : Int32))])) _
          exact k)
        obtain ⟨fs, hr, hrun, hended, hW, hsame⟩ := X0.leave (v := some (.int (8 : Int32))) (fun h => by rw [Bd.returns] at h; cases h)
        refine ⟨_, _, pre5 _ ?_, hrun, hended, _, _, rfl, ?_, ⟨_, rfl⟩, hW, hsame.mono (by decide) (by decide)⟩
        · exact retI X0 hx Bd.returns (hb hby dex_39) hr
        · show Q_ex Z x1 p2 h0 n0 _ s₁.heap _
          unfold Q_ex; rw [hf]
          rw [e0]
          exact ⟨rfl, N0, rfl⟩
  · skip
    have h1 : x1 < 126 := (own_126 x1).mp hz
    have pre3 : ∀ t, Steps p.tables e below (s₁.setTop (mkF m 31 #[.val (.long x1), .second, .val (.int p2), .val (.int (2 : Int32))] [(.int p2)])) t → Steps p.tables e below (s₁.setTop (entryFrame m #[(.long x1), (.int p2)] 4)) t := fun t k => pre2 t (by
      show Steps p.tables e below (s₁.setTop (mkF m 7 #[.val (.long x1), .second, .val (.int p2), .val (.int (2 : Int32))] [(.int (XT.cmpL x1 (125 : Int64)))])) _
      refine XS.ifYes X0.here hx rfl (pc0 := 7) (pc' := 30) rfl (hb hby dex_7) rfl (XT.ll_le_t hz) (by decide) (by decide) ?_
      show Steps p.tables e below (s₁.setTop (mkF m 30 #[.val (.long x1), .second, .val (.int p2), .val (.int (2 : Int32))] [])) _
      refine XS.iloadN X0.here hx rfl (hb hby dex_30) rfl ?_
      show Steps p.tables e below (s₁.setTop (mkF m 31 #[.val (.long x1), .second, .val (.int p2), .val (.int (2 : Int32))] [(.int p2)])) _
      exact k)
    by_cases hm : p2 = 0
    · skip
      have hf : own_hs x1 p2 = 2 := by unfold own_hs; rw [if_pos h1, if_pos hm]
      have hv : (2 : Int32) = (2 : Int32) := by decide +kernel
      have pre4 : ∀ t, Steps p.tables e below (s₁.setTop (mkF m 39 #[.val (.long x1), .second, .val (.int p2), .val (.int (2 : Int32))] [(.int (2 : Int32))])) t → Steps p.tables e below (s₁.setTop (entryFrame m #[(.long x1), (.int p2)] 4)) t := fun t k => pre3 t (by
        show Steps p.tables e below (s₁.setTop (mkF m 31 #[.val (.long x1), .second, .val (.int p2), .val (.int (2 : Int32))] [(.int p2)])) _
        refine XS.ifYes X0.here hx rfl (pc0 := 31) (pc' := 38) rfl (hb hby dex_31) rfl (XT.i0_eq_t hm) (by decide) (by decide) ?_
        show Steps p.tables e below (s₁.setTop (mkF m 38 #[.val (.long x1), .second, .val (.int p2), .val (.int (2 : Int32))] [])) _
        refine XS.iloadN X0.here hx rfl (hb hby dex_38) rfl ?_
        show Steps p.tables e below (s₁.setTop (mkF m 39 #[.val (.long x1), .second, .val (.int p2), .val (.int (2 : Int32))] [(.int (2 : Int32))])) _
        rw [hv]
        show Steps p.tables e below (s₁.setTop (mkF m 39 #[.val (.long x1), .second, .val (.int p2), .val (.int (2 : Int32))] [(.int (2 : Int32))])) _
        exact k)
      obtain ⟨fs, hr, hrun, hended, hW, hsame⟩ := X0.leave (v := some (.int (2 : Int32))) (fun h => by rw [Bd.returns] at h; cases h)
      refine ⟨_, _, pre4 _ ?_, hrun, hended, _, _, rfl, ?_, ⟨_, rfl⟩, hW, hsame.mono (by decide) (by decide)⟩
      · exact retI X0 hx Bd.returns (hb hby dex_39) hr
      · show Q_ex Z x1 p2 h0 n0 _ s₁.heap _
        unfold Q_ex; rw [hf]
        rw [e0]
        exact ⟨rfl, N0, rfl⟩
    · skip
      have hf : own_hs x1 p2 = 6 := by unfold own_hs; rw [if_pos h1, if_neg hm]
      have hv : ((2 : Int32) + (4 : Int32)) = (6 : Int32) := by decide +kernel
      have pre4 : ∀ t, Steps p.tables e below (s₁.setTop (mkF m 39 #[.val (.long x1), .second, .val (.int p2), .val (.int ((2 : Int32) + (4 : Int32)))] [(.int (6 : Int32))])) t → Steps p.tables e below (s₁.setTop (entryFrame m #[(.long x1), (.int p2)] 4)) t := fun t k => pre3 t (by
        show Steps p.tables e below (s₁.setTop (mkF m 31 #[.val (.long x1), .second, .val (.int p2), .val (.int (2 : Int32))] [(.int p2)])) _
        refine XS.ifNo X0.here hx rfl (hb hby dex_31) rfl (XT.i0_eq_f hm) ?_
        show Steps p.tables e below (s₁.setTop (mkF m 34 #[.val (.long x1), .second, .val (.int p2), .val (.int (2 : Int32))] [])) _
        refine XS.iloadN X0.here hx rfl (hb hby dex_34) rfl ?_
        show Steps p.tables e below (s₁.setTop (mkF m 35 #[.val (.long x1), .second, .val (.int p2), .val (.int (2 : Int32))] [(.int (2 : Int32))])) _
        refine XS.iconst X0.here hx rfl (hb hby dex_35) ?_
        show Steps p.tables e below (s₁.setTop (mkF m 36 #[.val (.long x1), .second, .val (.int p2), .val (.int (2 : Int32))] [(.int (4 : Int32)), (.int (2 : Int32))])) _
        refine XS.iadd X0.here hx rfl (hb hby dex_36) rfl ?_
        show Steps p.tables e below (s₁.setTop (mkF m 37 #[.val (.long x1), .second, .val (.int p2), .val (.int (2 : Int32))] [(.int ((2 : Int32) + (4 : Int32)))])) _
        refine XS.istoreN X0.here hx rfl (hb hby dex_37) rfl (l' := #[.val (.long x1), .second, .val (.int p2), .val (.int ((2 : Int32) + (4 : Int32)))]) rfl ?_
        show Steps p.tables e below (s₁.setTop (mkF m 38 #[.val (.long x1), .second, .val (.int p2), .val (.int ((2 : Int32) + (4 : Int32)))] [])) _
        refine XS.iloadN X0.here hx rfl (hb hby dex_38) rfl ?_
        show Steps p.tables e below (s₁.setTop (mkF m 39 #[.val (.long x1), .second, .val (.int p2), .val (.int ((2 : Int32) + (4 : Int32)))] [(.int ((2 : Int32) + (4 : Int32)))])) _
        rw [hv]
        show Steps p.tables e below (s₁.setTop (mkF m 39 #[.val (.long x1), .second, .val (.int p2), .val (.int ((2 : Int32) + (4 : Int32)))] [(.int (6 : Int32))])) _
        exact k)
      obtain ⟨fs, hr, hrun, hended, hW, hsame⟩ := X0.leave (v := some (.int (6 : Int32))) (fun h => by rw [Bd.returns] at h; cases h)
      refine ⟨_, _, pre4 _ ?_, hrun, hended, _, _, rfl, ?_, ⟨_, rfl⟩, hW, hsame.mono (by decide) (by decide)⟩
      · exact retI X0 hx Bd.returns (hb hby dex_39) hr
      · show Q_ex Z x1 p2 h0 n0 _ s₁.heap _
        unfold Q_ex; rw [hf]
        rw [e0]
        exact ⟨rfl, N0, rfl⟩
theorem pd__JI_J : parseMethodDescriptor "(JI)J" = some ⟨[.long, .int], some .long⟩ := by decide +kernel
theorem pd__JZ_I : parseMethodDescriptor "(JZ)I" = some ⟨[.long, .boolean], some .int⟩ := by decide +kernel
theorem pn_0 : plainName "com/example/terse_broker/tersebroker/websocket/FramesHeadSize113PinLaw" = true := by first | (simp [plainName, overriddenIn]; done) | decide +kernel
theorem ef_0 (m : MethodId) (p1 : Int64) (p2 : Int32) (p3 : Int32) : entryFrame m #[(.long p1), (.int p2), (.int p3)] maxLocals = (mkF m 0 #[.val (.long p1), .second, .val (.int p2), .val (.int p3), .unset, .unset, .unset, .unset] []) := by first | (simp [entryFrame, mkF, argsToLocals, Value.category, maxLocals]; done) | rfl
def Q_0 (Z : State) (p1 : Int64) (p2 p3 : Int32) (h0 : Heap) (n0 : Nat) (v : Option Value) (h : Heap) (L : List Loc) : Prop := v = some (.int 1) ∧ Fr n0 L
set_option maxRecDepth 65536 in
set_option maxHeartbeats 40000000 in
theorem rm_0 (l : Launch) (Z : State) (a0 : Array Value) (hw : ∀ d ∈ tables_1, d.before a0 Z = true) (ws : List Jvm.Cond) (p1 : Int64) (p2 p3 : Int32) (h0 : Heap) (n0 : Nat) (Z0 : n0 ≤ h0.size)  :
    MetFree l x (head1 (Jvm.Cond.code x code maxLocals ret :: ws) room_1) (fun a U => a = #[(.long p1), (.int p2), (.int p3)] ∧ Z.Warmed39 U.vm ∧ U.heap = h0) (fun _ _ _ _ _ => True) (fun _ U o U' => ∃ v L, o = .returned v ∧ Q_0 Z p1 p2 p3 h0 n0 v U'.heap L ∧ FrameEnd U o U' L room_1.cells room_1.slots) := by
  refine MetFree.of_bodySF (plainFor_of_name pn_0) hisR ?_
  intro p e s m args below meth c s₁ Bd hml0 hP hK
  obtain ⟨rfl, hZ, hh⟩ := hP
  have hx := Bd.exec
  have hby := Bd.bytes
  have hml : c.maxLocals = 8 := hml0
  have hown : s.vm.findClass "com/example/terse_broker/tersebroker/websocket/FramesHeadSize113PinLaw" = some m.cls := findClass_of_methodNamed Bd.named
  have hnm := (name_of_methodNamed Bd.named Bd.method).1
  have X0 : Stand p l e room_1 s m #[(.long p1), (.int p2), (.int p3)] below meth c s₁ [] 0 0 := Stand.of_body Bd
  have e0 : s₁.heap = h0 := by rw [← hh, Bd.state]; rfl
  have N0 := Fr.nil n0
  have pre0 : ∀ t, Steps p.tables e below (s₁.setTop (mkF m 0 #[.val (.long p1), .second, .val (.int p2), .val (.int p3), .unset, .unset, .unset, .unset] [])) t → Steps p.tables e below (s₁.setTop (entryFrame m #[(.long p1), (.int p2), (.int p3)] maxLocals)) t := fun t k => castTop (ef_0 m p1 p2 p3) k
  have pre2 : ∀ t, Steps p.tables e below (s₁.setTop (mkF m 3 #[.val (.long p1), .second, .val (.int p2), .val (.int p3), .unset, .unset, .unset, .unset] [(.int (p3 &&& (1 : Int32)))])) t → Steps p.tables e below (s₁.setTop (entryFrame m #[(.long p1), (.int p2), (.int p3)] maxLocals)) t := fun t k => pre0 t (by
    show Steps p.tables e below (s₁.setTop (mkF m 0 #[.val (.long p1), .second, .val (.int p2), .val (.int p3), .unset, .unset, .unset, .unset] [])) _
    refine XS.iloadN X0.here hx rfl (hb hby at_0) rfl ?_
    show Steps p.tables e below (s₁.setTop (mkF m 1 #[.val (.long p1), .second, .val (.int p2), .val (.int p3), .unset, .unset, .unset, .unset] [(.int p3)])) _
    refine XS.iconst X0.here hx rfl (hb hby at_1) ?_
    show Steps p.tables e below (s₁.setTop (mkF m 2 #[.val (.long p1), .second, .val (.int p2), .val (.int p3), .unset, .unset, .unset, .unset] [(.int (1 : Int32)), (.int p3)])) _
    refine XS.iand X0.here hx rfl (hb hby at_2) rfl ?_
    show Steps p.tables e below (s₁.setTop (mkF m 3 #[.val (.long p1), .second, .val (.int p2), .val (.int p3), .unset, .unset, .unset, .unset] [(.int (p3 &&& (1 : Int32)))])) _
    exact k)
  obtain ⟨fl, preJ⟩ : ∃ fl : Int32, ∀ t, Steps p.tables e below (s₁.setTop (mkF m 11 #[.val (.long p1), .second, .val (.int p2), .val (.int p3), .unset, .unset, .unset, .unset] [(.int fl)])) t → Steps p.tables e below (s₁.setTop (entryFrame m #[(.long p1), (.int p2), (.int p3)] maxLocals)) t := by
    by_cases hc : (p3 &&& (1 : Int32)) = 0
    · skip
      have pre3 : ∀ t, Steps p.tables e below (s₁.setTop (mkF m 11 #[.val (.long p1), .second, .val (.int p2), .val (.int p3), .unset, .unset, .unset, .unset] [(.int (0 : Int32))])) t → Steps p.tables e below (s₁.setTop (entryFrame m #[(.long p1), (.int p2), (.int p3)] maxLocals)) t := fun t k => pre2 t (by
        show Steps p.tables e below (s₁.setTop (mkF m 3 #[.val (.long p1), .second, .val (.int p2), .val (.int p3), .unset, .unset, .unset, .unset] [(.int (p3 &&& (1 : Int32)))])) _
        refine XS.ifYes X0.here hx rfl (pc0 := 3) (pc' := 10) rfl (hb hby at_3) rfl (XT.i0_eq_t hc) (by decide) (by decide) ?_
        show Steps p.tables e below (s₁.setTop (mkF m 10 #[.val (.long p1), .second, .val (.int p2), .val (.int p3), .unset, .unset, .unset, .unset] [])) _
        refine XS.iconst X0.here hx rfl (hb hby at_10) ?_
        show Steps p.tables e below (s₁.setTop (mkF m 11 #[.val (.long p1), .second, .val (.int p2), .val (.int p3), .unset, .unset, .unset, .unset] [(.int (0 : Int32))])) _
        exact k)
      exact ⟨_, pre3⟩
    · skip
      have pre3 : ∀ t, Steps p.tables e below (s₁.setTop (mkF m 11 #[.val (.long p1), .second, .val (.int p2), .val (.int p3), .unset, .unset, .unset, .unset] [(.int (1 : Int32))])) t → Steps p.tables e below (s₁.setTop (entryFrame m #[(.long p1), (.int p2), (.int p3)] maxLocals)) t := fun t k => pre2 t (by
        show Steps p.tables e below (s₁.setTop (mkF m 3 #[.val (.long p1), .second, .val (.int p2), .val (.int p3), .unset, .unset, .unset, .unset] [(.int (p3 &&& (1 : Int32)))])) _
        refine XS.ifNo X0.here hx rfl (hb hby at_3) rfl (XT.i0_eq_f hc) ?_
        show Steps p.tables e below (s₁.setTop (mkF m 6 #[.val (.long p1), .second, .val (.int p2), .val (.int p3), .unset, .unset, .unset, .unset] [])) _
        refine XS.iconst X0.here hx rfl (hb hby at_6) ?_
        show Steps p.tables e below (s₁.setTop (mkF m 7 #[.val (.long p1), .second, .val (.int p2), .val (.int p3), .unset, .unset, .unset, .unset] [(.int (1 : Int32))])) _
        refine XS.goto X0.here hx rfl (pc0 := 7) (pc' := 11) rfl (hb hby at_7) (by decide) (by decide) ?_
        show Steps p.tables e below (s₁.setTop (mkF m 11 #[.val (.long p1), .second, .val (.int p2), .val (.int p3), .unset, .unset, .unset, .unset] [(.int (1 : Int32))])) _
        exact k)
      exact ⟨_, pre3⟩
  have pre3 : ∀ t, Steps p.tables e below (s₁.setTop (mkF m 15 #[.val (.long p1), .second, .val (.int p2), .val (.int p3), .val (.int fl), .unset, .unset, .unset] [(.int p2), (.long p1)])) t → Steps p.tables e below (s₁.setTop (entryFrame m #[(.long p1), (.int p2), (.int p3)] maxLocals)) t := fun t k => preJ t (by
    show Steps p.tables e below (s₁.setTop (mkF m 11 #[.val (.long p1), .second, .val (.int p2), .val (.int p3), .unset, .unset, .unset, .unset] [(.int fl)])) _
    refine XS.istore X0.here hx rfl (hb hby at_11) rfl (l' := #[.val (.long p1), .second, .val (.int p2), .val (.int p3), .val (.int fl), .unset, .unset, .unset]) rfl ?_
    show Steps p.tables e below (s₁.setTop (mkF m 13 #[.val (.long p1), .second, .val (.int p2), .val (.int p3), .val (.int fl), .unset, .unset, .unset] [])) _
    refine XT.lloadN X0.here hx rfl (hb hby at_13) rfl ?_
    show Steps p.tables e below (s₁.setTop (mkF m 14 #[.val (.long p1), .second, .val (.int p2), .val (.int p3), .val (.int fl), .unset, .unset, .unset] [(.long p1)])) _
    refine XS.iloadN X0.here hx rfl (hb hby at_14) rfl ?_
    show Steps p.tables e below (s₁.setTop (mkF m 15 #[.val (.long p1), .second, .val (.int p2), .val (.int p3), .val (.int fl), .unset, .unset, .unset] [(.int p2), (.long p1)])) _
    exact k)
  obtain ⟨_, _, ⟨T4, L4, kk4, nn4⟩, -, X4, ⟨Lc4, hQ4, l4, y4, z4⟩, st4⟩ := Jvm.LawKit.callS X0 hx (y := (⟨"com/example/terse_broker/tersebroker/websocket/FramesHeadSize113PinLaw", "pickLength", "(JI)J"⟩ : MethodName)) hown (mvT hZ (hw _ (List.mem_of_getElem? (i := 0) rfl))) (mvT hZ (hw _ (List.mem_of_getElem? (i := 1) rfl))) (mvT hZ (hw _ (List.mem_of_getElem? (i := 2) rfl))) (mvT hZ (hw _ (List.mem_of_getElem? (i := 3) rfl))) (by decide) (backOf (W := 0) (rm_pi l Z a0 hw [] p1 p2 h0 n0 Z0 ) hZ (hw _ (List.mem_of_getElem? (i := 3) rfl)) (hw _ (List.mem_of_getElem? (i := 2) rfl)) (by decide) (by decide)) (g := (mkF m 15 #[.val (.long p1), .second, .val (.int p2), .val (.int p3), .val (.int fl), .unset, .unset, .unset] [(.int p2), (.long p1)])) rfl (by rw [hml]; rfl) (argsL := [(.long p1), (.int p2)]) (rest := []) (lenOf pd__JI_J rfl) rfl (by show 2 * 0 + _ ≤ _; exact Nat.le_of_eq rfl) (hb hby at_15) (fun _ _ => ⟨rfl, e0, (by decide : 0 + 0 ≤ _), (by decide : 0 + 0 ≤ _)⟩)
  dsimp only [Pt.U, Pt.locs, Pt.cells, Pt.slots] at X4 l4 y4 z4 st4 hQ4
  subst l4 y4 z4
  obtain ⟨zz, rfl, N4q, eq4⟩ := hQ4
  have N4 := Fr.app N0 N4q
  have pre5 : ∀ t, Steps p.tables e below (T4.setTop (mkF m 24 #[.val (.long p1), .second, .val (.int p2), .val (.int p3), .val (.int fl), .val (.long zz), .second, .unset] [(.int fl), (.long zz)])) t → Steps p.tables e below (s₁.setTop (entryFrame m #[(.long p1), (.int p2), (.int p3)] maxLocals)) t := fun t k => pre3 t (by
    show Steps p.tables e below (s₁.setTop (mkF m 15 #[.val (.long p1), .second, .val (.int p2), .val (.int p3), .val (.int fl), .unset, .unset, .unset] [(.int p2), (.long p1)])) _
    refine st4 _ ?_
    show Steps p.tables e below (T4.setTop (mkF m 18 #[.val (.long p1), .second, .val (.int p2), .val (.int p3), .val (.int fl), .unset, .unset, .unset] [(.long zz)])) _
    refine XT.lstore X4.here hx rfl (hb hby at_18) rfl (l' := #[.val (.long p1), .second, .val (.int p2), .val (.int p3), .val (.int fl), .val (.long zz), .second, .unset]) rfl ?_
    show Steps p.tables e below (T4.setTop (mkF m 20 #[.val (.long p1), .second, .val (.int p2), .val (.int p3), .val (.int fl), .val (.long zz), .second, .unset] [])) _
    refine XT.lload X4.here hx rfl (hb hby at_20) rfl ?_
    show Steps p.tables e below (T4.setTop (mkF m 22 #[.val (.long p1), .second, .val (.int p2), .val (.int p3), .val (.int fl), .val (.long zz), .second, .unset] [(.long zz)])) _
    refine XS.iload X4.here hx rfl (hb hby at_22) rfl ?_
    show Steps p.tables e below (T4.setTop (mkF m 24 #[.val (.long p1), .second, .val (.int p2), .val (.int p3), .val (.int fl), .val (.long zz), .second, .unset] [(.int fl), (.long zz)])) _
    exact k)
  obtain ⟨_, _, ⟨T6, L6, kk6, nn6⟩, -, X6, ⟨Lc6, hQ6, l6, y6, z6⟩, st6⟩ := Jvm.LawKit.callS X4 hx (y := (⟨"com/example/terse_broker/tersebroker/websocket/Frames", "headSize", "(JZ)I"⟩ : MethodName)) hown (mvT hZ (hw _ (List.mem_of_getElem? (i := 5) rfl))) (mvT hZ (hw _ (List.mem_of_getElem? (i := 6) rfl))) (mvT hZ (hw _ (List.mem_of_getElem? (i := 7) rfl))) (mvT hZ (hw _ (List.mem_of_getElem? (i := 8) rfl))) (by decide) (backOf (W := 0) (rm_he l Z a0 hw [] zz fl h0 n0 Z0 ) hZ (hw _ (List.mem_of_getElem? (i := 8) rfl)) (hw _ (List.mem_of_getElem? (i := 7) rfl)) (by decide) (by decide)) (g := (mkF m 24 #[.val (.long p1), .second, .val (.int p2), .val (.int p3), .val (.int fl), .val (.long zz), .second, .unset] [(.int fl), (.long zz)])) rfl (by rw [hml]; rfl) (argsL := [(.long zz), (.int fl)]) (rest := []) (lenOf pd__JZ_I rfl) rfl (by show 2 * 0 + _ ≤ _; exact Nat.le_of_eq rfl) (hb hby at_24) (fun _ _ => ⟨rfl, eq4, (by decide : 0 + 0 ≤ _), (by decide : 0 + 0 ≤ _)⟩)
  dsimp only [Pt.U, Pt.locs, Pt.cells, Pt.slots] at X6 l6 y6 z6 st6 hQ6
  subst l6 y6 z6
  obtain ⟨rfl, N6q, eq6⟩ := hQ6
  have N6 := Fr.app N4 N6q
  have pre7 : ∀ t, Steps p.tables e below (T6.setTop (mkF m 35 #[.val (.long p1), .second, .val (.int p2), .val (.int p3), .val (.int fl), .val (.long zz), .second, .val (.int (own_hs zz fl))] [(.int fl), (.long zz), (.int (own_hs zz fl))])) t → Steps p.tables e below (s₁.setTop (entryFrame m #[(.long p1), (.int p2), (.int p3)] maxLocals)) t := fun t k => pre5 t (by
    show Steps p.tables e below (T4.setTop (mkF m 24 #[.val (.long p1), .second, .val (.int p2), .val (.int p3), .val (.int fl), .val (.long zz), .second, .unset] [(.int fl), (.long zz)])) _
    refine st6 _ ?_
    show Steps p.tables e below (T6.setTop (mkF m 27 #[.val (.long p1), .second, .val (.int p2), .val (.int p3), .val (.int fl), .val (.long zz), .second, .unset] [(.int (own_hs zz fl))])) _
    refine XS.istore X6.here hx rfl (hb hby at_27) rfl (l' := #[.val (.long p1), .second, .val (.int p2), .val (.int p3), .val (.int fl), .val (.long zz), .second, .val (.int (own_hs zz fl))]) rfl ?_
    show Steps p.tables e below (T6.setTop (mkF m 29 #[.val (.long p1), .second, .val (.int p2), .val (.int p3), .val (.int fl), .val (.long zz), .second, .val (.int (own_hs zz fl))] [])) _
    refine XS.iload X6.here hx rfl (hb hby at_29) rfl ?_
    show Steps p.tables e below (T6.setTop (mkF m 31 #[.val (.long p1), .second, .val (.int p2), .val (.int p3), .val (.int fl), .val (.long zz), .second, .val (.int (own_hs zz fl))] [(.int (own_hs zz fl))])) _
    refine XT.lload X6.here hx rfl (hb hby at_31) rfl ?_
    show Steps p.tables e below (T6.setTop (mkF m 33 #[.val (.long p1), .second, .val (.int p2), .val (.int p3), .val (.int fl), .val (.long zz), .second, .val (.int (own_hs zz fl))] [(.long zz), (.int (own_hs zz fl))])) _
    refine XS.iload X6.here hx rfl (hb hby at_33) rfl ?_
    show Steps p.tables e below (T6.setTop (mkF m 35 #[.val (.long p1), .second, .val (.int p2), .val (.int p3), .val (.int fl), .val (.long zz), .second, .val (.int (own_hs zz fl))] [(.int fl), (.long zz), (.int (own_hs zz fl))])) _
    exact k)
  obtain ⟨_, _, ⟨T8, L8, kk8, nn8⟩, -, X8, ⟨Lc8, hQ8, l8, y8, z8⟩, st8⟩ := Jvm.LawKit.callS X6 hx (y := (⟨"com/example/terse_broker/tersebroker/websocket/FramesHeadSize113PinLaw", "expected", "(JZ)I"⟩ : MethodName)) hown (mvT hZ (hw _ (List.mem_of_getElem? (i := 10) rfl))) (mvT hZ (hw _ (List.mem_of_getElem? (i := 11) rfl))) (mvT hZ (hw _ (List.mem_of_getElem? (i := 2) rfl))) (mvT hZ (hw _ (List.mem_of_getElem? (i := 12) rfl))) (by decide) (backOf (W := 1) (rm_ex l Z a0 hw [] zz fl h0 n0 Z0 ) hZ (hw _ (List.mem_of_getElem? (i := 12) rfl)) (hw _ (List.mem_of_getElem? (i := 2) rfl)) (by decide) (by decide)) (g := (mkF m 35 #[.val (.long p1), .second, .val (.int p2), .val (.int p3), .val (.int fl), .val (.long zz), .second, .val (.int (own_hs zz fl))] [(.int fl), (.long zz), (.int (own_hs zz fl))])) rfl (by rw [hml]; rfl) (argsL := [(.long zz), (.int fl)]) (rest := [(.int (own_hs zz fl))]) (lenOf pd__JZ_I rfl) rfl (by show 2 * 0 + _ ≤ _; exact Nat.le_of_eq rfl) (hb hby at_35) (fun _ _ => ⟨rfl, eq6, (by decide : 0 + 0 ≤ _), (by decide : 0 + 0 ≤ _)⟩)
  dsimp only [Pt.U, Pt.locs, Pt.cells, Pt.slots] at X8 l8 y8 z8 st8 hQ8
  subst l8 y8 z8
  obtain ⟨rfl, N8q, eq8⟩ := hQ8
  have N8 := Fr.app N6 N8q
  have pre9 : ∀ t, Steps p.tables e below (T8.setTop (mkF m 46 #[.val (.long p1), .second, .val (.int p2), .val (.int p3), .val (.int fl), .val (.long zz), .second, .val (.int (own_hs zz fl))] [(.int (1 : Int32))])) t → Steps p.tables e below (s₁.setTop (entryFrame m #[(.long p1), (.int p2), (.int p3)] maxLocals)) t := fun t k => pre7 t (by
    show Steps p.tables e below (T6.setTop (mkF m 35 #[.val (.long p1), .second, .val (.int p2), .val (.int p3), .val (.int fl), .val (.long zz), .second, .val (.int (own_hs zz fl))] [(.int fl), (.long zz), (.int (own_hs zz fl))])) _
    refine st8 _ ?_
    show Steps p.tables e below (T8.setTop (mkF m 38 #[.val (.long p1), .second, .val (.int p2), .val (.int p3), .val (.int fl), .val (.long zz), .second, .val (.int (own_hs zz fl))] [(.int (own_hs zz fl)), (.int (own_hs zz fl))])) _
    refine XS.icmpNo X8.here hx rfl (hb hby at_38) rfl (XT.ii_ne_f rfl) ?_
    show Steps p.tables e below (T8.setTop (mkF m 41 #[.val (.long p1), .second, .val (.int p2), .val (.int p3), .val (.int fl), .val (.long zz), .second, .val (.int (own_hs zz fl))] [])) _
    refine XS.iconst X8.here hx rfl (hb hby at_41) ?_
    show Steps p.tables e below (T8.setTop (mkF m 42 #[.val (.long p1), .second, .val (.int p2), .val (.int p3), .val (.int fl), .val (.long zz), .second, .val (.int (own_hs zz fl))] [(.int (1 : Int32))])) _
    refine XS.goto X8.here hx rfl (pc0 := 42) (pc' := 46) rfl (hb hby at_42) (by decide) (by decide) ?_
    show Steps p.tables e below (T8.setTop (mkF m 46 #[.val (.long p1), .second, .val (.int p2), .val (.int p3), .val (.int fl), .val (.long zz), .second, .val (.int (own_hs zz fl))] [(.int (1 : Int32))])) _
    exact k)
  obtain ⟨fs, hr, hrun, hended, hW, hsame⟩ := X8.leave (v := some (.int (1 : Int32))) (fun h => by rw [Bd.returns] at h; cases h)
  refine ⟨_, _, pre9 _ ?_, hrun, hended, _, _, rfl, ?_, ⟨_, rfl⟩, hW, hsame.mono (by decide) (by decide)⟩
  · exact retN X8 hx (t := .boolean) Bd.returns (by simp) (hb hby at_46) hr
  · show Q_0 Z p1 p2 p3 h0 n0 _ T8.heap _
    rw [eq8]
    exact ⟨rfl, N8⟩
set_option maxRecDepth 65536 in
set_option maxHeartbeats 40000000 in
theorem comes_1 {Post : Tables → Env → Array Value → State → Outcome → State → Prop} (hpost : ∀ tb e args s v u, (limb_1_1.after args s (.returned v) u = true ∧ limb_1_2.after args s (.returned v) u = true ∧ True) → FrameEnd s (.returned v) u (Jvm.fieldLocs frame_1_writes args s ++ Jvm.arrayLocs frame_1_arrays args s ++ Jvm.staticLocs frame_1_statics s) 0 0 → Post tb e args s (.returned v) u) :
    ArmFor flags0 classFile x code maxLocals ret World_1 tables_1 room_1 Calls_1 rest_1 Pre_1 Post := by
  intro l hfl _ _ p e ha hc hk s m args below hf hA hF happ hP
  obtain ⟨hcalls, hrest, hpre⟩ := hP
  obtain ⟨-, -, -, hnamed, -, -, -, hat⟩ := (Spec.applies_iff hf).mp happ
  obtain ⟨hg, hn⟩ := and_e (Cond.before_iff.mp (show (Jvm.Cond.and given_1 narrow_1).before args s = true from hpre))
  obtain ⟨gc, hg⟩ := and_e hg
  obtain ⟨gi0, hg⟩ := and_e hg
  obtain ⟨gi1, hg⟩ := and_e hg
  have gi2 := hg
  obtain ⟨w0, w1, w2, rfl⟩ : ∃ w0 w1 w2 : Value, args = #[w0, w1, w2] := by
    have hs : args.size = 3 := by simpa [Cond.value, given_1] using gc
    obtain ⟨L⟩ := args
    match L, hs with
    | [w0, w1, w2], _ => exact ⟨w0, w1, w2, rfl⟩
  have hw := fun d (hd : d ∈ tables_1) => atoms_spec (ws := Jvm.Cond.code x code maxLocals ret :: tables_1) hat d (List.mem_cons_of_mem _ hd)
  have hfit : Fit s := fun {y c} hc i hi => by
    obtain ⟨ha, rfl⟩ := Array.getElem?_eq_some_iff.mp hc
    have q := List.all_eq_true.mp ((Array.all_eq_true_iff_forall_mem.mp hF) _ (Array.getElem_mem ha)) i (List.mem_range.mpr hi)
    simpa [Array.getElem?_eq_getElem hi] using q
  obtain ⟨i0, ei0⟩ := isL_v gi0
  obtain rfl : w0 = (.long i0) := Option.some.inj ei0
  obtain ⟨i1, ei1⟩ := is_v gi1
  obtain rfl : w1 = (.int i1) := Option.some.inj ei1
  obtain ⟨i2, ei2⟩ := is_v gi2
  obtain rfl : w2 = (.int i2) := Option.some.inj ei2
  obtain ⟨n, o, h1, h2, h3, _, L, rfl, ⟨rfl, N⟩, hq⟩ := rm_0 l s _ hw tables_1 i0 i1 i2  s.heap s.heap.size (Nat.le_refl _)  p e ha hc hk s m _ below hf ((Spec.applies_iff_loose hf).mp happ).1 ⟨rfl, State.Warmed39.refl s, rfl⟩ trivial
  refine ⟨n, _, h1, h2, h3, hpost _ _ _ _ _ _ ⟨Cond.after_iff.mpr rfl, Cond.after_iff.mpr (eq_i res_at (Term.int_eval (1)) rfl), trivial⟩ ⟨hq.1, hq.2.1, (hq.2.2.sift fun y hy => Or.inr (N y hy)).mono (by decide) (by decide)⟩⟩
theorem main_1_1 : Claimed_1_1 := comes_1 fun _ _ _ _ _ _ h hF => ⟨h.1, hF⟩
theorem main_1_2 : Claimed_1_2 := comes_1 fun _ _ _ _ _ _ h hF => ⟨h.2.1, hF⟩
end Jvm.Pilot.@@N@@
namespace Jvm.Pilot.@@N@@
open Jvm Jvm.ClassFile Sem Op Lib Jvm.Free Jvm.Stand Jvm.Pilot.@@N@@.Jvm.D
/-! MADE BY PROGRAM (witnessworld.py) out of the Statement's table words and the real class files: 9 classes; the members and pool entries that the words name. The judged class is class 1, her method 3. -/
namespace start1
open Jvm.ClassFile
def u (s : String) : CpInfo := .utf8 (stringToUtf16 s)
/-- a pool by its gaps: so many unusable entries, then the entry; so many at the end -/
def gap : Nat → List CpInfo → List CpInfo
  | 0, r => r
  | n + 1, r => .unusable :: gap n r
def poolList (es : List (Nat × CpInfo)) (last : Nat) : List CpInfo := es.foldr (fun e r => gap e.1 (e.2 :: r)) (gap last [])
def pool (es : List (Nat × CpInfo)) (last : Nat) : Array CpInfo := ⟨poolList es last⟩
def fileOf (pool : Array CpInfo) (this : Nat) (attrs : Array Attribute := #[]) (ms : Array MethodInfo := #[]) (fl : Nat := 33) (sup : Nat := 0) (ifs : Array Nat := #[]) (fds : Array FieldInfo := #[]) : ClassFile where
  minorVersion := 0
  majorVersion := 65
  constantPool := pool
  accessFlags := fl
  thisClass := this
  superClass := sup
  interfaces := ifs
  fields := fds
  methods := ms
  attributes := attrs
def plain (name : String) (sup : Option ClassId) : Class where
  name := name
  kind := .ordinary
  loader := none
  accessFlags := 33
  super := sup
  interfaces := #[]
  cf := none
  fields := #[]
  methods := #[]
  instanceTypes := #[]
  staticTypes := #[]
  resolved := #[]
  callSites := []
  init := .initialized
  statics := none
  mirror := none

def pool0 : Array CpInfo := pool [(5, u "<init>"), (0, u "()V"), (1, .class_ 10), (1, u "java/lang/Object")] 113

def k0m0 : Method := { name := "<init>", desc := "()V", sig := { parameters := [], returnType := none }, accessFlags := 1, code := none }
/-- java/lang/Object -/
def k0 : Class := { plain "java/lang/Object" none with
  accessFlags := 33
  interfaces := #[]
  cf := some (fileOf pool0 8 #[] #[{ accessFlags := 1, nameIndex := 5, descriptorIndex := 6, attributes := #[] }] 33 0 #[] #[])
  fields := #[]
  methods := #[k0m0]
  instanceTypes := #[]
  staticTypes := #[]
  resolved := Array.replicate 124 none
  statics := none }

def pool1 : Array CpInfo := pool [(2, .class_ 4), (1, u "java/lang/Object"), (0, u "<init>"), (0, u "()V"), (0, .long 127), (1, .long 255), (1, .long 131071), (3, .long 9223372036854775807), (1, .long 125), (1, .long 65535), (1, .long 4294967295), (1, .methodref 24 25), (0, .class_ 26), (0, .nameAndType 27 28), (0, u "com/example/terse_broker/tersebroker/websocket/FramesHeadSize113PinLaw"), (0, u "pickLength"), (0, u "(JI)J"), (0, .methodref 30 31), (0, .class_ 32), (0, .nameAndType 33 34), (0, u "com/example/terse_broker/tersebroker/websocket/Frames"), (0, u "headSize"), (0, u "(JZ)I"), (0, .methodref 24 36), (0, .nameAndType 37 34), (0, u "expected"), (3, u "law"), (0, u "(JII)Z")] 2

def k1m0 : Method := { name := "<init>", desc := "()V", sig := { parameters := [], returnType := none }, accessFlags := 1, code := none }
def k1c1 : Code := { maxStack := 6, maxLocals := 4, code := method_2_code, exceptionTable := #[], attributes := #[] }
def k1m1 : Method := { name := "pickLength", desc := "(JI)J", sig := { parameters := [.long, .int], returnType := some .long }, accessFlags := 10, code := some k1c1 }
def k1c2 : Code := { maxStack := 4, maxLocals := 4, code := method_3_code, exceptionTable := #[], attributes := #[] }
def k1m2 : Method := { name := "expected", desc := "(JZ)I", sig := { parameters := [.long, .boolean], returnType := some .int }, accessFlags := 10, code := some k1c2 }
def k1c3 : Code := { maxStack := 4, maxLocals := 8, code := code, exceptionTable := #[], attributes := #[] }
def k1m3 : Method := { name := "law", desc := "(JII)Z", sig := { parameters := [.long, .int, .int], returnType := some .boolean }, accessFlags := 9, code := some k1c3 }
/-- com/example/terse_broker/tersebroker/websocket/FramesHeadSize113PinLaw -/
def k1 : Class := { plain "com/example/terse_broker/tersebroker/websocket/FramesHeadSize113PinLaw" (some 0) with
  accessFlags := 49
  interfaces := #[]
  cf := some (fileOf pool1 24 #[] #[{ accessFlags := 1, nameIndex := 5, descriptorIndex := 6, attributes := #[] }, { accessFlags := 10, nameIndex := 27, descriptorIndex := 28, attributes := #[] }, { accessFlags := 10, nameIndex := 37, descriptorIndex := 34, attributes := #[] }, { accessFlags := 9, nameIndex := 41, descriptorIndex := 42, attributes := #[] }] 49 2 #[] #[])
  fields := #[]
  methods := #[k1m0, k1m1, k1m2, k1m3]
  instanceTypes := #[]
  staticTypes := #[]
  resolved := Array.replicate 45 none
  statics := none }

def pool2 : Array CpInfo := pool [(2, .class_ 4), (1, u "java/lang/Object"), (0, u "<init>"), (0, u "()V"), (0, .class_ 8), (0, u "com/example/terse_broker/tersebroker/websocket/Frames"), (6, .long 126), (1, .long 65535), (16, u "headSize"), (18, .class_ 54), (0, u "com/example/terse_broker/tersebroker/websocket/Frames$Head"), (89, .class_ 145), (0, u "com/example/terse_broker/tersebroker/websocket/Frames$Failure"), (5, .class_ 152), (0, u "com/example/terse_broker/tersebroker/websocket/Frames$Close"), (27, u "LONGS"), (0, u "Ljava/lang/invoke/VarHandle;"), (39, u "CONTINUATION"), (0, u "I"), (2, u "TEXT"), (1, u "BINARY"), (1, u "CLOSE"), (1, u "PING"), (1, u "PONG"), (1, u "LARGEST_CONTROL_PAYLOAD"), (1, u "NORMAL_CLOSURE"), (1, u "PROTOCOL_ERROR"), (1, u "UNSUPPORTED_DATA"), (1, u "NO_STATUS"), (1, u "INVALID_PAYLOAD"), (1, u "POLICY_VIOLATION"), (1, u "MESSAGE_TOO_BIG"), (1, u "LARGEST_HEAD_SIZE"), (1, u "FINAL"), (1, u "RESERVED"), (1, u "OPCODE"), (1, u "MASKED"), (0, u "LENGTH"), (1, u "LENGTH_16"), (1, u "LENGTH_64"), (3, u "(JZ)I")] 36

def k2m0 : Method := { name := "<init>", desc := "()V", sig := { parameters := [], returnType := none }, accessFlags := 2, code := none }
def k2c1 : Code := { maxStack := 4, maxLocals := 4, code := prog_115_method_3_code, exceptionTable := #[], attributes := #[] }
def k2m1 : Method := { name := "headSize", desc := "(JZ)I", sig := { parameters := [.long, .boolean], returnType := some .int }, accessFlags := 9, code := some k2c1 }
/-- com/example/terse_broker/tersebroker/websocket/Frames -/
def k2 : Class := { plain "com/example/terse_broker/tersebroker/websocket/Frames" (some 0) with
  accessFlags := 33
  interfaces := #[]
  cf := some (fileOf pool2 7 #[.nestMembers #[144, 151, 53]] #[{ accessFlags := 2, nameIndex := 5, descriptorIndex := 6, attributes := #[] }, { accessFlags := 9, nameIndex := 34, descriptorIndex := 268, attributes := #[] }] 33 2 #[] #[{ accessFlags := 25, nameIndex := 221, descriptorIndex := 222, attributes := #[] }, { accessFlags := 25, nameIndex := 225, descriptorIndex := 222, attributes := #[] }, { accessFlags := 25, nameIndex := 227, descriptorIndex := 222, attributes := #[] }, { accessFlags := 25, nameIndex := 229, descriptorIndex := 222, attributes := #[] }, { accessFlags := 25, nameIndex := 231, descriptorIndex := 222, attributes := #[] }, { accessFlags := 25, nameIndex := 233, descriptorIndex := 222, attributes := #[] }, { accessFlags := 25, nameIndex := 235, descriptorIndex := 222, attributes := #[] }, { accessFlags := 25, nameIndex := 237, descriptorIndex := 222, attributes := #[] }, { accessFlags := 25, nameIndex := 239, descriptorIndex := 222, attributes := #[] }, { accessFlags := 25, nameIndex := 241, descriptorIndex := 222, attributes := #[] }, { accessFlags := 25, nameIndex := 243, descriptorIndex := 222, attributes := #[] }, { accessFlags := 25, nameIndex := 245, descriptorIndex := 222, attributes := #[] }, { accessFlags := 25, nameIndex := 247, descriptorIndex := 222, attributes := #[] }, { accessFlags := 25, nameIndex := 249, descriptorIndex := 222, attributes := #[] }, { accessFlags := 25, nameIndex := 251, descriptorIndex := 222, attributes := #[] }, { accessFlags := 26, nameIndex := 253, descriptorIndex := 222, attributes := #[] }, { accessFlags := 26, nameIndex := 255, descriptorIndex := 222, attributes := #[] }, { accessFlags := 26, nameIndex := 257, descriptorIndex := 222, attributes := #[] }, { accessFlags := 26, nameIndex := 259, descriptorIndex := 222, attributes := #[] }, { accessFlags := 26, nameIndex := 260, descriptorIndex := 222, attributes := #[] }, { accessFlags := 26, nameIndex := 262, descriptorIndex := 222, attributes := #[] }, { accessFlags := 26, nameIndex := 264, descriptorIndex := 222, attributes := #[] }, { accessFlags := 26, nameIndex := 180, descriptorIndex := 181, attributes := #[] }])
  fields := #[{ name := "CONTINUATION", type := .int, accessFlags := 25, slot := 0, constantValue := 0 }, { name := "TEXT", type := .int, accessFlags := 25, slot := 1, constantValue := 0 }, { name := "BINARY", type := .int, accessFlags := 25, slot := 2, constantValue := 0 }, { name := "CLOSE", type := .int, accessFlags := 25, slot := 3, constantValue := 0 }, { name := "PING", type := .int, accessFlags := 25, slot := 4, constantValue := 0 }, { name := "PONG", type := .int, accessFlags := 25, slot := 5, constantValue := 0 }, { name := "LARGEST_CONTROL_PAYLOAD", type := .int, accessFlags := 25, slot := 6, constantValue := 0 }, { name := "NORMAL_CLOSURE", type := .int, accessFlags := 25, slot := 7, constantValue := 0 }, { name := "PROTOCOL_ERROR", type := .int, accessFlags := 25, slot := 8, constantValue := 0 }, { name := "UNSUPPORTED_DATA", type := .int, accessFlags := 25, slot := 9, constantValue := 0 }, { name := "NO_STATUS", type := .int, accessFlags := 25, slot := 10, constantValue := 0 }, { name := "INVALID_PAYLOAD", type := .int, accessFlags := 25, slot := 11, constantValue := 0 }, { name := "POLICY_VIOLATION", type := .int, accessFlags := 25, slot := 12, constantValue := 0 }, { name := "MESSAGE_TOO_BIG", type := .int, accessFlags := 25, slot := 13, constantValue := 0 }, { name := "LARGEST_HEAD_SIZE", type := .int, accessFlags := 25, slot := 14, constantValue := 0 }, { name := "FINAL", type := .int, accessFlags := 26, slot := 15, constantValue := 0 }, { name := "RESERVED", type := .int, accessFlags := 26, slot := 16, constantValue := 0 }, { name := "OPCODE", type := .int, accessFlags := 26, slot := 17, constantValue := 0 }, { name := "MASKED", type := .int, accessFlags := 26, slot := 18, constantValue := 0 }, { name := "LENGTH", type := .int, accessFlags := 26, slot := 19, constantValue := 0 }, { name := "LENGTH_16", type := .int, accessFlags := 26, slot := 20, constantValue := 0 }, { name := "LENGTH_64", type := .int, accessFlags := 26, slot := 21, constantValue := 0 }, { name := "LONGS", type := (.object "java/lang/invoke/VarHandle"), accessFlags := 26, slot := 22, constantValue := 0 }]
  methods := #[k2m0, k2m1]
  instanceTypes := #[]
  staticTypes := #[.int, .int, .int, .int, .int, .int, .int, .int, .int, .int, .int, .int, .int, .int, .int, .int, .int, .int, .int, .int, .int, .int, (.object "java/lang/invoke/VarHandle")]
  resolved := Array.replicate 305 none
  statics := none }

def pool3 : Array CpInfo := pool [(1, u "java/lang/Cloneable"), (0, .class_ 1), (0, u "java/lang/Object"), (0, .class_ 3)] 3

/-- java/lang/Cloneable -/
def k3 : Class := { plain "java/lang/Cloneable" (some 0) with
  accessFlags := 1537
  interfaces := #[]
  cf := some (fileOf pool3 2 #[] #[] 1537 4 #[] #[])
  fields := #[]
  methods := #[]
  instanceTypes := #[]
  staticTypes := #[]
  resolved := Array.replicate 8 none
  statics := none }

def pool4 : Array CpInfo := pool [(1, u "java/io/Serializable"), (0, .class_ 1), (0, u "java/lang/Object"), (0, .class_ 3)] 3

/-- java/io/Serializable -/
def k4 : Class := { plain "java/io/Serializable" (some 0) with
  accessFlags := 1537
  interfaces := #[]
  cf := some (fileOf pool4 2 #[] #[] 1537 4 #[] #[])
  fields := #[]
  methods := #[]
  instanceTypes := #[]
  staticTypes := #[]
  resolved := Array.replicate 8 none
  statics := none }

/-- the primitive byte -/
def k5 : Class := { plain "byte" none with kind := .primitive 'B', accessFlags := 0x411 }
/-- [B -/
def k6 : Class := { plain "[B" (some 0) with kind := .array 5 .byte, interfaces := #[3, 4], accessFlags := 1041 }

/-- the primitive int -/
def k7 : Class := { plain "int" none with kind := .primitive 'I', accessFlags := 0x411 }
/-- [I -/
def k8 : Class := { plain "[I" (some 0) with kind := .array 7 .int, interfaces := #[3, 4], accessFlags := 1041 }

def heap : Heap := #[]
def classes : Array Class := #[k0, k1, k2, k3, k4, k5, k6, k7, k8]
def interned : List (Array UInt16 × Addr) := []
def slotsUsed : Nat := 0
def theMethod : MethodId := ⟨1, 3⟩
def args0 : Array Value := #[.long 70, .int 3, .int 1]
def aboutOver (below : List Frame) : State where
  vm := { classes := classes, interned := interned.toArray }
  heap := heap
  slotsUsed := slotsUsed
  threads := #[{ frames := .invoking theMethod args0 :: below }]
def below0 : List Frame := [.native { method := ⟨0, 0⟩, args := #[] }]
def about1 : State := aboutOver below0
def p0 : Program := .bare "" "" ""
def e0 : Env := launch0.env 0 0 0
theorem w_frames : about1.frames = Frame.invoking theMethod args0 :: below0 := rfl
set_option maxRecDepth 65536 in
theorem w_args : argsFit about1.vm theMethod args0 = true := by decide +kernel
set_option maxRecDepth 65536 in
theorem w_heap : heapFits about1 = true := by decide +kernel
set_option maxRecDepth 65536 in
theorem w_runnable : about1.curStatus? = some .runnable := by decide +kernel
set_option maxRecDepth 65536 in
theorem w_alone : about1.alone = true := by decide +kernel
set_option maxRecDepth 65536 in
theorem w_named : about1.methodNamed? x = some theMethod := by decide +kernel
set_option maxRecDepth 65536 in
theorem w_hears : about1.hears theMethod below0 = true := by decide +kernel
set_option maxRecDepth 65536 in
theorem w_ripe : about1.ripe theMethod args0 below0 = true := by decide +kernel
theorem w_running : about1.status = .running := rfl
set_option maxRecDepth 65536 in
theorem w_room : about1.hasRoom e0.platform room_1 = true :=
  launch0.hasRoom_least _ room_1 (by decide +kernel) (by decide +kernel) (by decide +kernel) (by decide +kernel) (by decide +kernel) (by decide +kernel)
theorem allAtoms_all (ts : List Jvm.Cond) (a : Array Jvm.Value) (st : Jvm.State) : (allAtoms ts).before a st = ts.all (fun c => c.before a st) := by
  induction ts with
  | nil => rfl
  | cons c t ih =>
    show (Jvm.Cond.and c (allAtoms t)).before a st = _
    rw [Jvm.Cond.before_and, ih, List.all_cons]
def words1 : List Jvm.Cond := Jvm.Cond.code x code maxLocals ret :: tables_1
/-- a 'code' word, met by the world's own term for the bytes: nothing is compared byte by byte -/
theorem code_word {y : MethodName} {bytes : ByteArray} {mx : Nat} {rt : Option FieldType} {a : Array Value} {s : State} {m : MethodId} {meth : Method} {c : Code} (h1 : s.methodNamed? y = some m) (h2 : s.vm.method? m = some meth) (h3 : meth.code = some c) (h4 : c.code = bytes)
    (h5 : (c.maxLocals == mx && c.exceptionTable.isEmpty && decide (c.maxStack ≤ mostOperands) && decide (meth.sig.returnType = rt) && !meth.locks && decide (parseMethodDescriptor y.desc = some meth.sig)) = true) : (Jvm.Cond.code y bytes mx rt).before a s = true := by
  simp only [Bool.and_eq_true, beq_iff_eq, Bool.not_eq_true', decide_eq_true_eq] at h5
  obtain ⟨⟨⟨⟨⟨g1, g2⟩, g3⟩, g4⟩, g5⟩, g6⟩ := h5
  simp [Cond.before, Cond.holds, Cond.value, h1, h2, h3, h4, g1, g2, g3, g4, g5, g6]
def isCode : Jvm.Cond → Bool
  | .code _ _ _ _ => true
  | _ => false
theorem all_split {L : List Jvm.Cond} {P : Jvm.Cond → Bool} (h1 : L.all (fun c => isCode c || P c) = true) (h2 : ∀ c ∈ L.filter isCode, P c = true) : L.all P = true := by
  refine List.all_eq_true.mpr fun c hc => ?_
  have h := List.all_eq_true.mp h1 c hc
  rcases Bool.eq_false_or_eq_true (isCode c) with hi | hi
  · exact h2 c (List.mem_filter.mpr ⟨hc, hi⟩)
  · simpa [hi] using h
set_option maxRecDepth 65536 in
theorem w_c0 : (Jvm.Cond.code x code maxLocals ret).before args0 about1 = true := code_word (m := ⟨1, 3⟩) (meth := k1m3) (c := k1c3) (by decide +kernel) rfl rfl rfl (by decide +kernel)
set_option maxRecDepth 65536 in
theorem w_c1 : (Jvm.Cond.code ({ cls := "com/example/terse_broker/tersebroker/websocket/FramesHeadSize113PinLaw", name := "pickLength", desc := "(JI)J" } : Jvm.MethodName) method_2_code (4 : Nat) (Option.some Jvm.ClassFile.FieldType.long)).before args0 about1 = true := code_word (m := ⟨1, 1⟩) (meth := k1m1) (c := k1c1) (by decide +kernel) rfl rfl rfl (by decide +kernel)
set_option maxRecDepth 65536 in
theorem w_c2 : (Jvm.Cond.code ({ cls := "com/example/terse_broker/tersebroker/websocket/Frames", name := "headSize", desc := "(JZ)I" } : Jvm.MethodName) prog_115_method_3_code (4 : Nat) (Option.some Jvm.ClassFile.FieldType.int)).before args0 about1 = true := code_word (m := ⟨2, 1⟩) (meth := k2m1) (c := k2c1) (by decide +kernel) rfl rfl rfl (by decide +kernel)
set_option maxRecDepth 65536 in
theorem w_c3 : (Jvm.Cond.code ({ cls := "com/example/terse_broker/tersebroker/websocket/FramesHeadSize113PinLaw", name := "expected", desc := "(JZ)I" } : Jvm.MethodName) method_3_code (4 : Nat) (Option.some Jvm.ClassFile.FieldType.int)).before args0 about1 = true := code_word (m := ⟨1, 2⟩) (meth := k1m2) (c := k1c2) (by decide +kernel) rfl rfl rfl (by decide +kernel)
def codes1 : List Jvm.Cond := [Jvm.Cond.code x code maxLocals ret, Jvm.Cond.code ({ cls := "com/example/terse_broker/tersebroker/websocket/FramesHeadSize113PinLaw", name := "pickLength", desc := "(JI)J" } : Jvm.MethodName) method_2_code (4 : Nat) (Option.some Jvm.ClassFile.FieldType.long), Jvm.Cond.code ({ cls := "com/example/terse_broker/tersebroker/websocket/Frames", name := "headSize", desc := "(JZ)I" } : Jvm.MethodName) prog_115_method_3_code (4 : Nat) (Option.some Jvm.ClassFile.FieldType.int), Jvm.Cond.code ({ cls := "com/example/terse_broker/tersebroker/websocket/FramesHeadSize113PinLaw", name := "expected", desc := "(JZ)I" } : Jvm.MethodName) method_3_code (4 : Nat) (Option.some Jvm.ClassFile.FieldType.int)]
set_option maxRecDepth 65536 in
theorem codes_eq : words1.filter isCode = codes1 := rfl
theorem w_codes : ∀ c ∈ words1.filter isCode, c.before args0 about1 = true := by
  rw [codes_eq]
  intro c hc
  simp only [codes1, List.mem_cons, List.not_mem_nil, or_false] at hc
  rcases hc with rfl | rfl | rfl | rfl
  · exact w_c0
  · exact w_c1
  · exact w_c2
  · exact w_c3
set_option maxRecDepth 65536 in
theorem w_t1 : words1.all (fun c => isCode c || c.before args0 about1) = true := by decide +kernel
theorem w_tables : (allAtoms (Jvm.Cond.code x code maxLocals ret :: tables_1)).before args0 about1 = true := by
  rw [allAtoms_all]
  show words1.all (fun c => c.before args0 about1) = true
  refine all_split ?_ w_codes
  rw [w_t1]
set_option maxRecDepth 65536 in
theorem w_case : (Jvm.Cond.and given_1 narrow_1).before args0 about1 = true := by decide +kernel
theorem w_applies : (headSpec (Jvm.Cond.code x code maxLocals ret :: tables_1) room_1).applies x e0.platform about1 = true :=
  (Spec.applies_iff w_frames).mpr ⟨w_running, w_runnable, w_alone, w_named, w_hears, w_ripe, w_room, w_tables⟩
theorem atStart : AtStart classFile x code maxLocals ret World_1 tables_1 room_1 Calls_1 rest_1 Pre_1 launch0 p0 e0 about1 theMethod args0 below0 :=
  ⟨lists_1, trivial, launch0.admits_env _ _ _, launch0.least_env, fairChoices_fair.cas, fairChoices_fair.clock, w_frames, w_args, w_heap, w_applies, trivial, trivial, w_case⟩
end start1
theorem witness_1 : WitnessClaimed_1 := ⟨start1.p0, start1.e0, start1.about1, start1.theMethod, start1.args0, start1.below0, start1.atStart⟩
end Jvm.Pilot.@@N@@
