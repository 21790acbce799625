import JvmDerived
import JvmDerived.Pilot.@@N@@Statement
import JvmDerived.Pilot.@@N@@Code
set_option linter.unusedVariables false
set_option linter.unusedSimpArgs false
namespace Jvm.RoadKit
open Sem ClassFile Op Lib Jvm.Stand Jvm.Free Jvm.LawKit
section New
variable {p : Program} {l : Launch} {e : Env} {R : Room} {s : State} {m : MethodId} {args : Array Value} {below : List Frame} {meth : Method} {c : Code} {T : State} {locs : List Loc} {cells slots : Nat}
theorem retI (X : Stand p l e R s m args below meth c T locs cells slots) (hx : p.tables.exec = Jvm.exec) {pc : Nat} {Ls : Array Slot} {z : Int32} {rest : List Value} (hret : meth.sig.returnType = some .int) (hd : decode c.code pc = .ok (.ireturn, 1)) {fs : List Frame}
    (hl : ∀ (f : JFrame) (acts : List Action), f.method = m → f.locked = none → f.entered = [] → (doReturn e (T.setTop f) acts (some (.int z))).1 = T.setFrames fs) : Steps p.tables e below (T.setTop (mkF m pc Ls (.int z :: rest))) (T.setFrames fs) := by
  have hm' : T.vm.method? m = some meth := X.method'
  have hn : narrow .int (.int z) = .int z := rfl
  show Steps p.tables e below (T.setTop { method := m, pc := pc, locals := Ls, stack := _ :: rest, locked := none }) _
  jvm_step X.here [X.here.top, hx, hd, hm', hret, hn]
  first | (intro acts; rw [hl _ acts rfl rfl rfl]) | rw [hl _ _ rfl rfl rfl]
  exact Steps.refl _
end New
end Jvm.RoadKit
namespace Jvm.Pilot.@@N@@
open Jvm Jvm.ClassFile Sem Op Lib Jvm.Free Jvm.Stand Jvm.LawKit Jvm.RoadKit Bundle Jvm.Pilot.@@N@@.Jvm.D
theorem own_irem (x y : Int32) : x - (x / y) * y = x % y := by
  apply Int32.toInt_inj.mp
  have a := (x % y).toInt_lt; have b := (x % y).le_toInt
  rw [Int32.toInt_mod] at a b ⊢
  rw [Int32.toInt_sub, Int32.toInt_mul, Int32.toInt_div, Int.bmod_mul_bmod, Int.sub_bmod_bmod, Int.mul_comm, ← Int.tmod_def]
  exact Int.bmod_eq_of_le (by omega) (by omega)
theorem own_ns_exa {Z : State} {h : Heap} {a : Addr} {C : String} (F : Exa Z h a C) : ∀ c : Cell, h[a]? = some c → c.vm.isStatics = false := fun c hc => by
  obtain ⟨cell, k, h1, -, -, h4, -⟩ := F
  cases h1.symm.trans hc; exact h4
theorem own_sta_keep {Z : State} {h h' : Heap} {C n d : String} {v : Value} {ws : List Addr} (F : Sta Z h C n d v) (K : Keep h h' ws) (q : ∀ x ∈ ws, ∀ c : Cell, h[x]? = some c → c.vm.isStatics = false) : Sta Z h' C n d v := by
  obtain ⟨cf, i, k, f, st, cell, h1, h2, h3, h4, h5, h6, h7⟩ := F
  refine ⟨cf, i, k, f, st, cell, h1, h2, h3, h4, K.2.1 st cell h5 (fun hm => ?_), h6, h7⟩
  rw [q st hm cell h5] at h6; cases h6
def own_fd (x : Int64) : Int64 := if (x ^^^ 10000000000) < 0 then (if (x / 10000000000) * 10000000000 = x then x / 10000000000 else x / 10000000000 - 1) else x / 10000000000
theorem own_back (e P : Int64) : e - (e - P) = P := by
  apply Int64.toInt_inj.mp
  have h1 := c_lsub e P; have h2 := c_lsub e (e - P)
  have r1 := rng64 e; have r2 := rng64 P; have r3 := rng64 (e - P); have r4 := rng64 (e - (e - P))
  omega
theorem own_xs (x : Int64) : (x ^^^ 10000000000) < 0 ↔ x < 0 := by
  have h := c_xorSL x 10000000000
  have z0 : (0 : Int64).toInt = 0 := by decide
  have z1 : (10000000000 : Int64).toInt = 10000000000 := by decide
  rw [z1] at h
  rw [Int64.lt_iff_toInt_lt, Int64.lt_iff_toInt_lt, z0]
  omega
theorem own_eqA {e : Int64} (h : ¬ (e - (e / 10000000000) * 10000000000) < 0) : own_fd e * 10000000000 = e - (e - (e / 10000000000) * 10000000000) := by
  rw [own_back]
  have z0 : (0 : Int64).toInt = 0 := by decide
  have c := c_lrem e 10000000000 10000000000 (by decide)
  rw [Int64.lt_iff_toInt_lt, z0] at h
  unfold own_fd
  split
  · rename_i hx
    rw [own_xs, Int64.lt_iff_toInt_lt, z0] at hx
    have h2 := c.2 hx
    have h3 : (e - (e / 10000000000) * 10000000000).toInt = 0 := by omega
    have h4 : (e / 10000000000) * 10000000000 = e := by
      have h5 : e - (e / 10000000000) * 10000000000 = 0 := Int64.toInt_inj.mp (by rw [h3, z0])
      have h6 := own_back e ((e / 10000000000) * 10000000000)
      rw [h5] at h6
      rw [← h6]; exact Int64.sub_zero e
    rw [if_pos h4]
  · rfl
theorem own_eqB {e : Int64} (h : (e - (e / 10000000000) * 10000000000) < 0) : own_fd e * 10000000000 = e - ((e - (e / 10000000000) * 10000000000) + 10000000000) := by
  have z0 : (0 : Int64).toInt = 0 := by decide
  have c := c_lrem e 10000000000 10000000000 (by decide)
  rw [Int64.lt_iff_toInt_lt, z0] at h
  have hx : (e ^^^ 10000000000) < 0 := by
    rw [own_xs, Int64.lt_iff_toInt_lt, z0]
    by_cases q : e.toInt < 0
    · exact q
    · have := c.1 (by omega); omega
  have h4 : ¬ (e / 10000000000) * 10000000000 = e := fun q => by
    rw [q] at h
    have : (e - e).toInt = 0 := by rw [Int64.sub_self]; exact z0
    omega
  unfold own_fd
  rw [if_pos hx, if_neg h4]
  generalize e / 10000000000 = q at *
  have h5 : (q - 1) * 10000000000 = q * 10000000000 - 10000000000 := by rw [Int64.sub_mul, Int64.one_mul]
  rw [h5]
  generalize q * 10000000000 = P
  apply Int64.toInt_inj.mp
  have h1 := c_lsub e P; have h2 := c_ladd (e - P) 10000000000; have h6 := c_lsub e ((e - P) + 10000000000); have h7 := c_lsub P 10000000000
  have r1 := rng64 e; have r2 := rng64 P; have r3 := rng64 (e - P); have r4 := rng64 (e - ((e - P) + 10000000000)); have r5 := rng64 ((e - P) + 10000000000); have r6 := rng64 (P - 10000000000)
  have z1 : (10000000000 : Int64).toInt = 10000000000 := by decide
  rw [z1] at h2 h7
  omega
theorem dfd_0 : decode jdk_29_method_49_code 0 = .ok (.lload_n 0, 1) := by decide +kernel
theorem dfd_1 : decode jdk_29_method_49_code 1 = .ok (.lload_n 2, 1) := by decide +kernel
theorem dfd_2 : decode jdk_29_method_49_code 2 = .ok (.ldiv, 1) := by decide +kernel
theorem dfd_3 : decode jdk_29_method_49_code 3 = .ok (.lstore 4, 2) := by decide +kernel
theorem dfd_5 : decode jdk_29_method_49_code 5 = .ok (.lload_n 0, 1) := by decide +kernel
theorem dfd_6 : decode jdk_29_method_49_code 6 = .ok (.lload_n 2, 1) := by decide +kernel
theorem dfd_7 : decode jdk_29_method_49_code 7 = .ok (.lxor, 1) := by decide +kernel
theorem dfd_8 : decode jdk_29_method_49_code 8 = .ok (.lconst 0, 1) := by decide +kernel
theorem dfd_9 : decode jdk_29_method_49_code 9 = .ok (.lcmp, 1) := by decide +kernel
theorem dfd_10 : decode jdk_29_method_49_code 10 = .ok (.ifCond .ge 17, 3) := by decide +kernel
theorem dfd_13 : decode jdk_29_method_49_code 13 = .ok (.lload 4, 2) := by decide +kernel
theorem dfd_15 : decode jdk_29_method_49_code 15 = .ok (.lload_n 2, 1) := by decide +kernel
theorem dfd_16 : decode jdk_29_method_49_code 16 = .ok (.lmul, 1) := by decide +kernel
theorem dfd_17 : decode jdk_29_method_49_code 17 = .ok (.lload_n 0, 1) := by decide +kernel
theorem dfd_18 : decode jdk_29_method_49_code 18 = .ok (.lcmp, 1) := by decide +kernel
theorem dfd_19 : decode jdk_29_method_49_code 19 = .ok (.ifCond .eq 8, 3) := by decide +kernel
theorem dfd_22 : decode jdk_29_method_49_code 22 = .ok (.lload 4, 2) := by decide +kernel
theorem dfd_24 : decode jdk_29_method_49_code 24 = .ok (.lconst 1, 1) := by decide +kernel
theorem dfd_25 : decode jdk_29_method_49_code 25 = .ok (.lsub, 1) := by decide +kernel
theorem dfd_26 : decode jdk_29_method_49_code 26 = .ok (.lreturn, 1) := by decide +kernel
theorem dfd_27 : decode jdk_29_method_49_code 27 = .ok (.lload 4, 2) := by decide +kernel
theorem dfd_29 : decode jdk_29_method_49_code 29 = .ok (.lreturn, 1) := by decide +kernel
theorem pn_fd : plainFor (⟨"java/lang/Math", "floorDiv", "(JJ)J"⟩ : MethodName) = true := by decide +kernel
theorem ef_fd (m : MethodId) (x1 : Int64) : entryFrame m #[(.long x1), (.long (10000000000 : Int64))] 6 = (mkF m 0 #[.val (.long x1), .second, .val (.long (10000000000 : Int64)), .second, .unset, .unset] []) := by first | (simp [entryFrame, mkF, argsToLocals, Value.category]; done) | rfl
def Q_fd (Z : State) (x1 : Int64) (h0 : Heap) (n0 : Nat) (v : Option Value) (h : Heap) (L : List Loc) : Prop := v = some (.long (own_fd x1)) ∧ Fr n0 L ∧ h = h0
set_option maxRecDepth 65536 in
set_option maxHeartbeats 40000000 in
theorem rm_fd (l : Launch) (Z : State) (a0 : Array Value) (hw : ∀ d ∈ tables_1, d.before a0 Z = true) (ws : List Jvm.Cond) (x1 : Int64) (h0 : Heap) (n0 : Nat) (Z0 : n0 ≤ h0.size)  :
    MetFree l (⟨"java/lang/Math", "floorDiv", "(JJ)J"⟩ : MethodName) (head1 (Jvm.Cond.code (⟨"java/lang/Math", "floorDiv", "(JJ)J"⟩ : MethodName) jdk_29_method_49_code 6 (some .long) :: ws) ({ frames := 0, cells := 0, slots := 0, locals := 0 } : Room)) (fun a U => a = #[(.long x1), (.long (10000000000 : Int64))] ∧ Z.Warmed39 U.vm ∧ U.heap = h0) (fun _ _ _ _ _ => True) (fun _ U o U' => ∃ v L, o = .returned v ∧ Q_fd Z x1 h0 n0 v U'.heap L ∧ FrameEnd U o U' L ({ frames := 0, cells := 0, slots := 0, locals := 0 } : Room).cells ({ frames := 0, cells := 0, slots := 0, locals := 0 } : Room).slots) := by
  refine MetFree.of_bodySF pn_fd hisR ?_
  intro p e s m args below meth c s₁ Bd hml0 hP hK
  obtain ⟨rfl, hZ, hh⟩ := hP
  have hx := Bd.exec
  have hby := Bd.bytes
  have hml : c.maxLocals = 6 := hml0
  have hown : s.vm.findClass "java/lang/Math" = some m.cls := findClass_of_methodNamed Bd.named
  have hnm := (name_of_methodNamed Bd.named Bd.method).1
  have X0 : Stand p l e ({ frames := 0, cells := 0, slots := 0, locals := 0 } : Room) s m #[(.long x1), (.long (10000000000 : Int64))] below meth c s₁ [] 0 0 := Stand.of_body Bd
  have e0 : s₁.heap = h0 := by rw [← hh, Bd.state]; rfl
  have N0 := Fr.nil n0
  have pre0 : ∀ t, Steps p.tables e below (s₁.setTop (mkF m 0 #[.val (.long x1), .second, .val (.long (10000000000 : Int64)), .second, .unset, .unset] [])) t → Steps p.tables e below (s₁.setTop (entryFrame m #[(.long x1), (.long (10000000000 : Int64))] 6)) t := fun t k => castTop (ef_fd m x1) k
  have pre2 : ∀ t, Steps p.tables e below (s₁.setTop (mkF m 10 #[.val (.long x1), .second, .val (.long (10000000000 : Int64)), .second, .val (.long (x1 / (10000000000 : Int64))), .second] [(.int (XT.cmpL (x1 ^^^ (10000000000 : Int64)) (0 : Int64)))])) t → Steps p.tables e below (s₁.setTop (entryFrame m #[(.long x1), (.long (10000000000 : Int64))] 6)) t := fun t k => pre0 t (by
    show Steps p.tables e below (s₁.setTop (mkF m 0 #[.val (.long x1), .second, .val (.long (10000000000 : Int64)), .second, .unset, .unset] [])) _
    refine XT.lloadN X0.here hx rfl (hb hby dfd_0) rfl ?_
    show Steps p.tables e below (s₁.setTop (mkF m 1 #[.val (.long x1), .second, .val (.long (10000000000 : Int64)), .second, .unset, .unset] [(.long x1)])) _
    refine XT.lloadN X0.here hx rfl (hb hby dfd_1) rfl ?_
    show Steps p.tables e below (s₁.setTop (mkF m 2 #[.val (.long x1), .second, .val (.long (10000000000 : Int64)), .second, .unset, .unset] [(.long (10000000000 : Int64)), (.long x1)])) _
    refine XT.ldiv X0.here hx rfl (hb hby dfd_2) rfl (by decide) ?_
    show Steps p.tables e below (s₁.setTop (mkF m 3 #[.val (.long x1), .second, .val (.long (10000000000 : Int64)), .second, .unset, .unset] [(.long (x1 / (10000000000 : Int64)))])) _
    refine XT.lstore X0.here hx rfl (hb hby dfd_3) rfl (l' := #[.val (.long x1), .second, .val (.long (10000000000 : Int64)), .second, .val (.long (x1 / (10000000000 : Int64))), .second]) rfl ?_
    show Steps p.tables e below (s₁.setTop (mkF m 5 #[.val (.long x1), .second, .val (.long (10000000000 : Int64)), .second, .val (.long (x1 / (10000000000 : Int64))), .second] [])) _
    refine XT.lloadN X0.here hx rfl (hb hby dfd_5) rfl ?_
    show Steps p.tables e below (s₁.setTop (mkF m 6 #[.val (.long x1), .second, .val (.long (10000000000 : Int64)), .second, .val (.long (x1 / (10000000000 : Int64))), .second] [(.long x1)])) _
    refine XT.lloadN X0.here hx rfl (hb hby dfd_6) rfl ?_
    show Steps p.tables e below (s₁.setTop (mkF m 7 #[.val (.long x1), .second, .val (.long (10000000000 : Int64)), .second, .val (.long (x1 / (10000000000 : Int64))), .second] [(.long (10000000000 : Int64)), (.long x1)])) _
    refine XT.lxor X0.here hx rfl (hb hby dfd_7) rfl ?_
    show Steps p.tables e below (s₁.setTop (mkF m 8 #[.val (.long x1), .second, .val (.long (10000000000 : Int64)), .second, .val (.long (x1 / (10000000000 : Int64))), .second] [(.long (x1 ^^^ (10000000000 : Int64)))])) _
    refine XT.lconst X0.here hx rfl (hb hby dfd_8) ?_
    show Steps p.tables e below (s₁.setTop (mkF m 9 #[.val (.long x1), .second, .val (.long (10000000000 : Int64)), .second, .val (.long (x1 / (10000000000 : Int64))), .second] [(.long (0 : Int64)), (.long (x1 ^^^ (10000000000 : Int64)))])) _
    refine XT.lcmp X0.here hx rfl (hb hby dfd_9) rfl ?_
    show Steps p.tables e below (s₁.setTop (mkF m 10 #[.val (.long x1), .second, .val (.long (10000000000 : Int64)), .second, .val (.long (x1 / (10000000000 : Int64))), .second] [(.int (XT.cmpL (x1 ^^^ (10000000000 : Int64)) (0 : Int64)))])) _
    exact k)
  by_cases h1 : (x1 ^^^ (10000000000 : Int64)) < 0
  · skip
    have pre3 : ∀ t, Steps p.tables e below (s₁.setTop (mkF m 19 #[.val (.long x1), .second, .val (.long (10000000000 : Int64)), .second, .val (.long (x1 / (10000000000 : Int64))), .second] [(.int (XT.cmpL ((x1 / (10000000000 : Int64)) * (10000000000 : Int64)) x1))])) t → Steps p.tables e below (s₁.setTop (entryFrame m #[(.long x1), (.long (10000000000 : Int64))] 6)) t := fun t k => pre2 t (by
      show Steps p.tables e below (s₁.setTop (mkF m 10 #[.val (.long x1), .second, .val (.long (10000000000 : Int64)), .second, .val (.long (x1 / (10000000000 : Int64))), .second] [(.int (XT.cmpL (x1 ^^^ (10000000000 : Int64)) (0 : Int64)))])) _
      refine XS.ifNo X0.here hx rfl (hb hby dfd_10) rfl (XT.ll_ge_f h1) ?_
      show Steps p.tables e below (s₁.setTop (mkF m 13 #[.val (.long x1), .second, .val (.long (10000000000 : Int64)), .second, .val (.long (x1 / (10000000000 : Int64))), .second] [])) _
      refine XT.lload X0.here hx rfl (hb hby dfd_13) rfl ?_
      show Steps p.tables e below (s₁.setTop (mkF m 15 #[.val (.long x1), .second, .val (.long (10000000000 : Int64)), .second, .val (.long (x1 / (10000000000 : Int64))), .second] [(.long (x1 / (10000000000 : Int64)))])) _
      refine XT.lloadN X0.here hx rfl (hb hby dfd_15) rfl ?_
      show Steps p.tables e below (s₁.setTop (mkF m 16 #[.val (.long x1), .second, .val (.long (10000000000 : Int64)), .second, .val (.long (x1 / (10000000000 : Int64))), .second] [(.long (10000000000 : Int64)), (.long (x1 / (10000000000 : Int64)))])) _
      refine XT.lmul X0.here hx rfl (hb hby dfd_16) rfl ?_
      show Steps p.tables e below (s₁.setTop (mkF m 17 #[.val (.long x1), .second, .val (.long (10000000000 : Int64)), .second, .val (.long (x1 / (10000000000 : Int64))), .second] [(.long ((x1 / (10000000000 : Int64)) * (10000000000 : Int64)))])) _
      refine XT.lloadN X0.here hx rfl (hb hby dfd_17) rfl ?_
      show Steps p.tables e below (s₁.setTop (mkF m 18 #[.val (.long x1), .second, .val (.long (10000000000 : Int64)), .second, .val (.long (x1 / (10000000000 : Int64))), .second] [(.long x1), (.long ((x1 / (10000000000 : Int64)) * (10000000000 : Int64)))])) _
      refine XT.lcmp X0.here hx rfl (hb hby dfd_18) rfl ?_
      show Steps p.tables e below (s₁.setTop (mkF m 19 #[.val (.long x1), .second, .val (.long (10000000000 : Int64)), .second, .val (.long (x1 / (10000000000 : Int64))), .second] [(.int (XT.cmpL ((x1 / (10000000000 : Int64)) * (10000000000 : Int64)) x1))])) _
      exact k)
    by_cases h2 : ((x1 / (10000000000 : Int64)) * (10000000000 : Int64)) = x1
    · skip
      have hf : own_fd x1 = x1 / (10000000000 : Int64) := by unfold own_fd; rw [if_pos h1, if_pos h2]
      have pre4 : ∀ t, Steps p.tables e below (s₁.setTop (mkF m 29 #[.val (.long x1), .second, .val (.long (10000000000 : Int64)), .second, .val (.long (x1 / (10000000000 : Int64))), .second] [(.long (x1 / (10000000000 : Int64)))])) t → Steps p.tables e below (s₁.setTop (entryFrame m #[(.long x1), (.long (10000000000 : Int64))] 6)) t := fun t k => pre3 t (by
        show Steps p.tables e below (s₁.setTop (mkF m 19 #[.val (.long x1), .second, .val (.long (10000000000 : Int64)), .second, .val (.long (x1 / (10000000000 : Int64))), .second] [(.int (XT.cmpL ((x1 / (10000000000 : Int64)) * (10000000000 : Int64)) x1))])) _
        refine XS.ifYes X0.here hx rfl (pc0 := 19) (pc' := 27) rfl (hb hby dfd_19) rfl (XT.ll_eq_t h2) (by decide) (by decide) ?_
        show Steps p.tables e below (s₁.setTop (mkF m 27 #[.val (.long x1), .second, .val (.long (10000000000 : Int64)), .second, .val (.long (x1 / (10000000000 : Int64))), .second] [])) _
        refine XT.lload X0.here hx rfl (hb hby dfd_27) rfl ?_
        show Steps p.tables e below (s₁.setTop (mkF m 29 #[.val (.long x1), .second, .val (.long (10000000000 : Int64)), .second, .val (.long (x1 / (10000000000 : Int64))), .second] [(.long (x1 / (10000000000 : Int64)))])) _
        exact k)
      obtain ⟨fs, hr, hrun, hended, hW, hsame⟩ := X0.leave (v := some (.long (x1 / (10000000000 : Int64)))) (fun h => by rw [Bd.returns] at h; cases h)
      refine ⟨_, _, pre4 _ ?_, hrun, hended, _, _, rfl, ?_, ⟨_, rfl⟩, hW, hsame.mono (by decide) (by decide)⟩
      · exact X0.lreturnOut hx Bd.returns (hb hby dfd_29) hr
      · show Q_fd Z x1 h0 n0 _ s₁.heap _
        unfold Q_fd; rw [hf]
        rw [e0]
        exact ⟨rfl, N0, rfl⟩
    · skip
      have hf : own_fd x1 = x1 / (10000000000 : Int64) - 1 := by unfold own_fd; rw [if_pos h1, if_neg h2]
      have pre4 : ∀ t, Steps p.tables e below (s₁.setTop (mkF m 26 #[.val (.long x1), .second, .val (.long (10000000000 : Int64)), .second, .val (.long (x1 / (10000000000 : Int64))), .second] [(.long ((x1 / (10000000000 : Int64)) - (1 : Int64)))])) t → Steps p.tables e below (s₁.setTop (entryFrame m #[(.long x1), (.long (10000000000 : Int64))] 6)) t := fun t k => pre3 t (by
        show Steps p.tables e below (s₁.setTop (mkF m 19 #[.val (.long x1), .second, .val (.long (10000000000 : Int64)), .second, .val (.long (x1 / (10000000000 : Int64))), .second] [(.int (XT.cmpL ((x1 / (10000000000 : Int64)) * (10000000000 : Int64)) x1))])) _
        refine XS.ifNo X0.here hx rfl (hb hby dfd_19) rfl (XT.ll_eq_f h2) ?_
        show Steps p.tables e below (s₁.setTop (mkF m 22 #[.val (.long x1), .second, .val (.long (10000000000 : Int64)), .second, .val (.long (x1 / (10000000000 : Int64))), .second] [])) _
        refine XT.lload X0.here hx rfl (hb hby dfd_22) rfl ?_
        show Steps p.tables e below (s₁.setTop (mkF m 24 #[.val (.long x1), .second, .val (.long (10000000000 : Int64)), .second, .val (.long (x1 / (10000000000 : Int64))), .second] [(.long (x1 / (10000000000 : Int64)))])) _
        refine XT.lconst X0.here hx rfl (hb hby dfd_24) ?_
        show Steps p.tables e below (s₁.setTop (mkF m 25 #[.val (.long x1), .second, .val (.long (10000000000 : Int64)), .second, .val (.long (x1 / (10000000000 : Int64))), .second] [(.long (1 : Int64)), (.long (x1 / (10000000000 : Int64)))])) _
        refine XT.lsub X0.here hx rfl (hb hby dfd_25) rfl ?_
        show Steps p.tables e below (s₁.setTop (mkF m 26 #[.val (.long x1), .second, .val (.long (10000000000 : Int64)), .second, .val (.long (x1 / (10000000000 : Int64))), .second] [(.long ((x1 / (10000000000 : Int64)) - (1 : Int64)))])) _
        exact k)
      obtain ⟨fs, hr, hrun, hended, hW, hsame⟩ := X0.leave (v := some (.long ((x1 / (10000000000 : Int64)) - (1 : Int64)))) (fun h => by rw [Bd.returns] at h; cases h)
      refine ⟨_, _, pre4 _ ?_, hrun, hended, _, _, rfl, ?_, ⟨_, rfl⟩, hW, hsame.mono (by decide) (by decide)⟩
      · exact X0.lreturnOut hx Bd.returns (hb hby dfd_26) hr
      · show Q_fd Z x1 h0 n0 _ s₁.heap _
        unfold Q_fd; rw [hf]
        rw [e0]
        exact ⟨rfl, N0, rfl⟩
  · skip
    have hf : own_fd x1 = x1 / (10000000000 : Int64) := by unfold own_fd; rw [if_neg h1]
    have pre3 : ∀ t, Steps p.tables e below (s₁.setTop (mkF m 29 #[.val (.long x1), .second, .val (.long (10000000000 : Int64)), .second, .val (.long (x1 / (10000000000 : Int64))), .second] [(.long (x1 / (10000000000 : Int64)))])) t → Steps p.tables e below (s₁.setTop (entryFrame m #[(.long x1), (.long (10000000000 : Int64))] 6)) t := fun t k => pre2 t (by
      show Steps p.tables e below (s₁.setTop (mkF m 10 #[.val (.long x1), .second, .val (.long (10000000000 : Int64)), .second, .val (.long (x1 / (10000000000 : Int64))), .second] [(.int (XT.cmpL (x1 ^^^ (10000000000 : Int64)) (0 : Int64)))])) _
      refine XS.ifYes X0.here hx rfl (pc0 := 10) (pc' := 27) rfl (hb hby dfd_10) rfl (XT.ll_ge_t h1) (by decide) (by decide) ?_
      show Steps p.tables e below (s₁.setTop (mkF m 27 #[.val (.long x1), .second, .val (.long (10000000000 : Int64)), .second, .val (.long (x1 / (10000000000 : Int64))), .second] [])) _
      refine XT.lload X0.here hx rfl (hb hby dfd_27) rfl ?_
      show Steps p.tables e below (s₁.setTop (mkF m 29 #[.val (.long x1), .second, .val (.long (10000000000 : Int64)), .second, .val (.long (x1 / (10000000000 : Int64))), .second] [(.long (x1 / (10000000000 : Int64)))])) _
      exact k)
    obtain ⟨fs, hr, hrun, hended, hW, hsame⟩ := X0.leave (v := some (.long (x1 / (10000000000 : Int64)))) (fun h => by rw [Bd.returns] at h; cases h)
    refine ⟨_, _, pre3 _ ?_, hrun, hended, _, _, rfl, ?_, ⟨_, rfl⟩, hW, hsame.mono (by decide) (by decide)⟩
    · exact X0.lreturnOut hx Bd.returns (hb hby dfd_29) hr
    · show Q_fd Z x1 h0 n0 _ s₁.heap _
      unfold Q_fd; rw [hf]
      rw [e0]
      exact ⟨rfl, N0, rfl⟩
theorem dso_0 : decode prog_17_method_2_code 0 = .ok (.lload_n 0, 1) := by decide +kernel
theorem dso_1 : decode prog_17_method_2_code 1 = .ok (.ldc2_w 32, 3) := by decide +kernel
theorem dso_4 : decode prog_17_method_2_code 4 = .ok (.invokestatic 34, 3) := by decide +kernel
theorem dso_7 : decode prog_17_method_2_code 7 = .ok (.ldc2_w 32, 3) := by decide +kernel
theorem dso_10 : decode prog_17_method_2_code 10 = .ok (.lmul, 1) := by decide +kernel
theorem dso_11 : decode prog_17_method_2_code 11 = .ok (.lreturn, 1) := by decide +kernel
theorem pd__JJ_J : parseMethodDescriptor "(JJ)J" = some ⟨[.long, .long], some .long⟩ := by decide +kernel
theorem pn_so : plainName "com/example/spanfacet/spanfacet/StatsBucket" = true := by first | (simp [plainName, overriddenIn]; done) | decide +kernel
theorem ef_so (m : MethodId) (x1 : Int64) : entryFrame m #[(.long x1)] 2 = (mkF m 0 #[.val (.long x1), .second] []) := by first | (simp [entryFrame, mkF, argsToLocals, Value.category]; done) | rfl
def Q_so (Z : State) (x1 : Int64) (h0 : Heap) (n0 : Nat) (v : Option Value) (h : Heap) (L : List Loc) : Prop := v = some (.long (own_fd x1 * (10000000000 : Int64))) ∧ Fr n0 L ∧ h = h0
set_option maxRecDepth 65536 in
set_option maxHeartbeats 40000000 in
theorem rm_so (l : Launch) (Z : State) (a0 : Array Value) (hw : ∀ d ∈ tables_1, d.before a0 Z = true) (ws : List Jvm.Cond) (x1 : Int64) (h0 : Heap) (n0 : Nat) (Z0 : n0 ≤ h0.size)  :
    MetFree l (⟨"com/example/spanfacet/spanfacet/StatsBucket", "startOf", "(J)J"⟩ : MethodName) (head1 (Jvm.Cond.code (⟨"com/example/spanfacet/spanfacet/StatsBucket", "startOf", "(J)J"⟩ : MethodName) prog_17_method_2_code 2 (some .long) :: ws) ({ frames := 1, cells := 0, slots := 0, locals := 17 } : Room)) (fun a U => a = #[(.long x1)] ∧ Z.Warmed39 U.vm ∧ U.heap = h0) (fun _ _ _ _ _ => True) (fun _ U o U' => ∃ v L, o = .returned v ∧ Q_so Z x1 h0 n0 v U'.heap L ∧ FrameEnd U o U' L ({ frames := 1, cells := 0, slots := 0, locals := 17 } : Room).cells ({ frames := 1, cells := 0, slots := 0, locals := 17 } : Room).slots) := by
  refine MetFree.of_bodySF (plainFor_of_name pn_so) hisR ?_
  intro p e s m args below meth c s₁ Bd hml0 hP hK
  obtain ⟨rfl, hZ, hh⟩ := hP
  have hx := Bd.exec
  have hby := Bd.bytes
  have hml : c.maxLocals = 2 := hml0
  have hown : s.vm.findClass "com/example/spanfacet/spanfacet/StatsBucket" = some m.cls := findClass_of_methodNamed Bd.named
  have hnm := (name_of_methodNamed Bd.named Bd.method).1
  have X0 : Stand p l e ({ frames := 1, cells := 0, slots := 0, locals := 17 } : Room) s m #[(.long x1)] below meth c s₁ [] 0 0 := Stand.of_body Bd
  have e0 : s₁.heap = h0 := by rw [← hh, Bd.state]; rfl
  have N0 := Fr.nil n0
  have pre0 : ∀ t, Steps p.tables e below (s₁.setTop (mkF m 0 #[.val (.long x1), .second] [])) t → Steps p.tables e below (s₁.setTop (entryFrame m #[(.long x1)] 2)) t := fun t k => castTop (ef_so m x1) k
  have pre2 : ∀ t, Steps p.tables e below (s₁.setTop (mkF m 4 #[.val (.long x1), .second] [(.long (10000000000 : Int64)), (.long x1)])) t → Steps p.tables e below (s₁.setTop (entryFrame m #[(.long x1)] 2)) t := fun t k => pre0 t (by
    show Steps p.tables e below (s₁.setTop (mkF m 0 #[.val (.long x1), .second] [])) _
    refine XT.lloadN X0.here hx rfl (hb hby dso_0) rfl ?_
    show Steps p.tables e below (s₁.setTop (mkF m 1 #[.val (.long x1), .second] [(.long x1)])) _
    refine X0.ldc2J hx hown (mvT hZ (hw _ (List.mem_of_getElem? (i := 5) rfl))) rfl (hb hby dso_1) ?_
    show Steps p.tables e below (s₁.setTop (mkF m 4 #[.val (.long x1), .second] [(.long (10000000000 : Int64)), (.long x1)])) _
    exact k)
  obtain ⟨_, _, ⟨T3, L3, kk3, nn3⟩, -, X3, ⟨Lc3, hQ3, l3, y3, z3⟩, st3⟩ := Jvm.LawKit.callS X0 hx (y := (⟨"java/lang/Math", "floorDiv", "(JJ)J"⟩ : MethodName)) hown (mvT hZ (hw _ (List.mem_of_getElem? (i := 6) rfl))) (mvT hZ (hw _ (List.mem_of_getElem? (i := 7) rfl))) (mvT hZ (hw _ (List.mem_of_getElem? (i := 8) rfl))) (mvT hZ (hw _ (List.mem_of_getElem? (i := 9) rfl))) (by decide) (backOf (W := 0) (rm_fd l Z a0 hw [] x1 h0 n0 Z0 ) hZ (hw _ (List.mem_of_getElem? (i := 9) rfl)) (hw _ (List.mem_of_getElem? (i := 8) rfl)) (by decide) (by decide)) (g := (mkF m 4 #[.val (.long x1), .second] [(.long (10000000000 : Int64)), (.long x1)])) rfl (by rw [hml]; rfl) (argsL := [(.long x1), (.long (10000000000 : Int64))]) (rest := []) (lenOf pd__JJ_J rfl) rfl (by show 2 * 0 + _ ≤ _; exact Nat.le_of_eq rfl) (hb hby dso_4) (fun _ _ => ⟨rfl, e0, (by decide : 0 + 0 ≤ _), (by decide : 0 + 0 ≤ _)⟩)
  dsimp only [Pt.U, Pt.locs, Pt.cells, Pt.slots] at X3 l3 y3 z3 st3 hQ3
  subst l3 y3 z3
  obtain ⟨rfl, N3q, eq3⟩ := hQ3
  have N3 := Fr.app N0 N3q
  have pre4 : ∀ t, Steps p.tables e below (T3.setTop (mkF m 11 #[.val (.long x1), .second] [(.long ((own_fd x1) * (10000000000 : Int64)))])) t → Steps p.tables e below (s₁.setTop (entryFrame m #[(.long x1)] 2)) t := fun t k => pre2 t (by
    show Steps p.tables e below (s₁.setTop (mkF m 4 #[.val (.long x1), .second] [(.long (10000000000 : Int64)), (.long x1)])) _
    refine st3 _ ?_
    show Steps p.tables e below (T3.setTop (mkF m 7 #[.val (.long x1), .second] [(.long (own_fd x1))])) _
    refine X3.ldc2J hx hown (mvT hZ (hw _ (List.mem_of_getElem? (i := 5) rfl))) rfl (hb hby dso_7) ?_
    show Steps p.tables e below (T3.setTop (mkF m 10 #[.val (.long x1), .second] [(.long (10000000000 : Int64)), (.long (own_fd x1))])) _
    refine XT.lmul X3.here hx rfl (hb hby dso_10) rfl ?_
    show Steps p.tables e below (T3.setTop (mkF m 11 #[.val (.long x1), .second] [(.long ((own_fd x1) * (10000000000 : Int64)))])) _
    exact k)
  obtain ⟨fs, hr, hrun, hended, hW, hsame⟩ := X3.leave (v := some (.long ((own_fd x1) * (10000000000 : Int64)))) (fun h => by rw [Bd.returns] at h; cases h)
  refine ⟨_, _, pre4 _ ?_, hrun, hended, _, _, rfl, ?_, ⟨_, rfl⟩, hW, hsame.mono (by decide) (by decide)⟩
  · exact X3.lreturnOut hx Bd.returns (hb hby dso_11) hr
  · show Q_so Z x1 h0 n0 _ T3.heap _
    rw [eq3]
    exact ⟨rfl, N3, rfl⟩
theorem pd__J_J : parseMethodDescriptor "(J)J" = some ⟨[.long], some .long⟩ := by decide +kernel
theorem pn_0 : plainName "com/example/spanfacet/spanfacet/StatsBucketStartOfPinLaw" = true := by first | (simp [plainName, overriddenIn]; done) | decide +kernel
theorem ef_0 (m : MethodId) (p1 : Int64) (p2 : Int32) (p3 : Int32) (p4 : Int32) : entryFrame m #[(.long p1), (.int p2), (.int p3), (.int p4)] maxLocals = (mkF m 0 #[.val (.long p1), .second, .val (.int p2), .val (.int p3), .val (.int p4), .unset, .unset, .unset, .unset, .unset, .unset, .unset, .unset] []) := by first | (simp [entryFrame, mkF, argsToLocals, Value.category, maxLocals]; done) | rfl
def Q_0 (Z : State) (p1 : Int64) (p2 p3 p4 : Int32) (h0 : Heap) (n0 : Nat) (v : Option Value) (h : Heap) (L : List Loc) : Prop := v = some (.int 1) ∧ Fr n0 L
set_option maxRecDepth 65536 in
set_option maxHeartbeats 40000000 in
theorem rm_0 (l : Launch) (Z : State) (a0 : Array Value) (hw : ∀ d ∈ tables_1, d.before a0 Z = true) (ws : List Jvm.Cond) (p1 : Int64) (p2 p3 p4 : Int32) (h0 : Heap) (n0 : Nat) (Z0 : n0 ≤ h0.size)  :
    MetFree l x (head1 (Jvm.Cond.code x code maxLocals ret :: ws) room_1) (fun a U => a = #[(.long p1), (.int p2), (.int p3), (.int p4)] ∧ Z.Warmed39 U.vm ∧ U.heap = h0) (fun _ _ _ _ _ => True) (fun _ U o U' => ∃ v L, o = .returned v ∧ Q_0 Z p1 p2 p3 p4 h0 n0 v U'.heap L ∧ FrameEnd U o U' L room_1.cells room_1.slots) := by
  refine MetFree.of_bodySF (plainFor_of_name pn_0) hisR ?_
  intro p e s m args below meth c s₁ Bd hml0 hP hK
  obtain ⟨rfl, hZ, hh⟩ := hP
  have hx := Bd.exec
  have hby := Bd.bytes
  have hml : c.maxLocals = 13 := hml0
  have hown : s.vm.findClass "com/example/spanfacet/spanfacet/StatsBucketStartOfPinLaw" = some m.cls := findClass_of_methodNamed Bd.named
  have hnm := (name_of_methodNamed Bd.named Bd.method).1
  have X0 : Stand p l e room_1 s m #[(.long p1), (.int p2), (.int p3), (.int p4)] below meth c s₁ [] 0 0 := Stand.of_body Bd
  have e0 : s₁.heap = h0 := by rw [← hh, Bd.state]; rfl
  have N0 := Fr.nil n0
  have pre0 : ∀ t, Steps p.tables e below (s₁.setTop (mkF m 0 #[.val (.long p1), .second, .val (.int p2), .val (.int p3), .val (.int p4), .unset, .unset, .unset, .unset, .unset, .unset, .unset, .unset] [])) t → Steps p.tables e below (s₁.setTop (entryFrame m #[(.long p1), (.int p2), (.int p3), (.int p4)] maxLocals)) t := fun t k => castTop (ef_0 m p1 p2 p3 p4) k
  have pre2 : ∀ t, Steps p.tables e below (s₁.setTop (mkF m 9 #[.val (.long p1), .second, .val (.int p2), .val (.int p3), .val (.int p4), .val (.long (10000000000 : Int64)), .second, .unset, .unset, .unset, .unset, .unset, .unset] [(.int (p4 &&& (1 : Int32)))])) t → Steps p.tables e below (s₁.setTop (entryFrame m #[(.long p1), (.int p2), (.int p3), (.int p4)] maxLocals)) t := fun t k => pre0 t (by
    show Steps p.tables e below (s₁.setTop (mkF m 0 #[.val (.long p1), .second, .val (.int p2), .val (.int p3), .val (.int p4), .unset, .unset, .unset, .unset, .unset, .unset, .unset, .unset] [])) _
    refine X0.ldc2J hx hown (mvT hZ (hw _ (List.mem_of_getElem? (i := 0) rfl))) rfl (hb hby at_0) ?_
    show Steps p.tables e below (s₁.setTop (mkF m 3 #[.val (.long p1), .second, .val (.int p2), .val (.int p3), .val (.int p4), .unset, .unset, .unset, .unset, .unset, .unset, .unset, .unset] [(.long (10000000000 : Int64))])) _
    refine XT.lstore X0.here hx rfl (hb hby at_3) rfl (l' := #[.val (.long p1), .second, .val (.int p2), .val (.int p3), .val (.int p4), .val (.long (10000000000 : Int64)), .second, .unset, .unset, .unset, .unset, .unset, .unset]) rfl ?_
    show Steps p.tables e below (s₁.setTop (mkF m 5 #[.val (.long p1), .second, .val (.int p2), .val (.int p3), .val (.int p4), .val (.long (10000000000 : Int64)), .second, .unset, .unset, .unset, .unset, .unset, .unset] [])) _
    refine XS.iload X0.here hx rfl (hb hby at_5) rfl ?_
    show Steps p.tables e below (s₁.setTop (mkF m 7 #[.val (.long p1), .second, .val (.int p2), .val (.int p3), .val (.int p4), .val (.long (10000000000 : Int64)), .second, .unset, .unset, .unset, .unset, .unset, .unset] [(.int p4)])) _
    refine XS.iconst X0.here hx rfl (hb hby at_7) ?_
    show Steps p.tables e below (s₁.setTop (mkF m 8 #[.val (.long p1), .second, .val (.int p2), .val (.int p3), .val (.int p4), .val (.long (10000000000 : Int64)), .second, .unset, .unset, .unset, .unset, .unset, .unset] [(.int (1 : Int32)), (.int p4)])) _
    refine XS.iand X0.here hx rfl (hb hby at_8) rfl ?_
    show Steps p.tables e below (s₁.setTop (mkF m 9 #[.val (.long p1), .second, .val (.int p2), .val (.int p3), .val (.int p4), .val (.long (10000000000 : Int64)), .second, .unset, .unset, .unset, .unset, .unset, .unset] [(.int (p4 &&& (1 : Int32)))])) _
    exact k)
  obtain ⟨ee, preJ⟩ : ∃ ee : Int64, ∀ t, Steps p.tables e below (s₁.setTop (mkF m 30 #[.val (.long p1), .second, .val (.int p2), .val (.int p3), .val (.int p4), .val (.long (10000000000 : Int64)), .second, .val (.long ee), .second, .unset, .unset, .unset, .unset] [])) t → Steps p.tables e below (s₁.setTop (entryFrame m #[(.long p1), (.int p2), (.int p3), (.int p4)] maxLocals)) t := by
    by_cases hc : (p4 &&& (1 : Int32)) = 0
    · skip
      have pre3 : ∀ t, Steps p.tables e below (s₁.setTop (mkF m 30 #[.val (.long p1), .second, .val (.int p2), .val (.int p3), .val (.int p4), .val (.long (10000000000 : Int64)), .second, .val (.long p1), .second, .unset, .unset, .unset, .unset] [])) t → Steps p.tables e below (s₁.setTop (entryFrame m #[(.long p1), (.int p2), (.int p3), (.int p4)] maxLocals)) t := fun t k => pre2 t (by
        show Steps p.tables e below (s₁.setTop (mkF m 9 #[.val (.long p1), .second, .val (.int p2), .val (.int p3), .val (.int p4), .val (.long (10000000000 : Int64)), .second, .unset, .unset, .unset, .unset, .unset, .unset] [(.int (p4 &&& (1 : Int32)))])) _
        refine XS.ifNo X0.here hx rfl (hb hby at_9) rfl (XT.i0_ne_f hc) ?_
        show Steps p.tables e below (s₁.setTop (mkF m 12 #[.val (.long p1), .second, .val (.int p2), .val (.int p3), .val (.int p4), .val (.long (10000000000 : Int64)), .second, .unset, .unset, .unset, .unset, .unset, .unset] [])) _
        refine XT.lloadN X0.here hx rfl (hb hby at_12) rfl ?_
        show Steps p.tables e below (s₁.setTop (mkF m 13 #[.val (.long p1), .second, .val (.int p2), .val (.int p3), .val (.int p4), .val (.long (10000000000 : Int64)), .second, .unset, .unset, .unset, .unset, .unset, .unset] [(.long p1)])) _
        refine XT.lstore X0.here hx rfl (hb hby at_13) rfl (l' := #[.val (.long p1), .second, .val (.int p2), .val (.int p3), .val (.int p4), .val (.long (10000000000 : Int64)), .second, .val (.long p1), .second, .unset, .unset, .unset, .unset]) rfl ?_
        show Steps p.tables e below (s₁.setTop (mkF m 15 #[.val (.long p1), .second, .val (.int p2), .val (.int p3), .val (.int p4), .val (.long (10000000000 : Int64)), .second, .val (.long p1), .second, .unset, .unset, .unset, .unset] [])) _
        refine XS.goto X0.here hx rfl (pc0 := 15) (pc' := 30) rfl (hb hby at_15) (by decide) (by decide) ?_
        show Steps p.tables e below (s₁.setTop (mkF m 30 #[.val (.long p1), .second, .val (.int p2), .val (.int p3), .val (.int p4), .val (.long (10000000000 : Int64)), .second, .val (.long p1), .second, .unset, .unset, .unset, .unset] [])) _
        exact k)
      exact ⟨_, pre3⟩
    · skip
      have pre3 : ∀ t, Steps p.tables e below (s₁.setTop (mkF m 30 #[.val (.long p1), .second, .val (.int p2), .val (.int p3), .val (.int p4), .val (.long (10000000000 : Int64)), .second, .val (.long (((p2.toInt64) * (10000000000 : Int64)) + ((p3 % (3 : Int32)).toInt64))), .second, .unset, .unset, .unset, .unset] [])) t → Steps p.tables e below (s₁.setTop (entryFrame m #[(.long p1), (.int p2), (.int p3), (.int p4)] maxLocals)) t := fun t k => pre2 t (by
        show Steps p.tables e below (s₁.setTop (mkF m 9 #[.val (.long p1), .second, .val (.int p2), .val (.int p3), .val (.int p4), .val (.long (10000000000 : Int64)), .second, .unset, .unset, .unset, .unset, .unset, .unset] [(.int (p4 &&& (1 : Int32)))])) _
        refine XS.ifYes X0.here hx rfl (pc0 := 9) (pc' := 18) rfl (hb hby at_9) rfl (XT.i0_ne_t hc) (by decide) (by decide) ?_
        show Steps p.tables e below (s₁.setTop (mkF m 18 #[.val (.long p1), .second, .val (.int p2), .val (.int p3), .val (.int p4), .val (.long (10000000000 : Int64)), .second, .unset, .unset, .unset, .unset, .unset, .unset] [])) _
        refine XS.iloadN X0.here hx rfl (hb hby at_18) rfl ?_
        show Steps p.tables e below (s₁.setTop (mkF m 19 #[.val (.long p1), .second, .val (.int p2), .val (.int p3), .val (.int p4), .val (.long (10000000000 : Int64)), .second, .unset, .unset, .unset, .unset, .unset, .unset] [(.int p2)])) _
        refine XT.i2l X0.here hx rfl (hb hby at_19) rfl ?_
        show Steps p.tables e below (s₁.setTop (mkF m 20 #[.val (.long p1), .second, .val (.int p2), .val (.int p3), .val (.int p4), .val (.long (10000000000 : Int64)), .second, .unset, .unset, .unset, .unset, .unset, .unset] [(.long (p2.toInt64))])) _
        refine XT.lload X0.here hx rfl (hb hby at_20) rfl ?_
        show Steps p.tables e below (s₁.setTop (mkF m 22 #[.val (.long p1), .second, .val (.int p2), .val (.int p3), .val (.int p4), .val (.long (10000000000 : Int64)), .second, .unset, .unset, .unset, .unset, .unset, .unset] [(.long (10000000000 : Int64)), (.long (p2.toInt64))])) _
        refine XT.lmul X0.here hx rfl (hb hby at_22) rfl ?_
        show Steps p.tables e below (s₁.setTop (mkF m 23 #[.val (.long p1), .second, .val (.int p2), .val (.int p3), .val (.int p4), .val (.long (10000000000 : Int64)), .second, .unset, .unset, .unset, .unset, .unset, .unset] [(.long ((p2.toInt64) * (10000000000 : Int64)))])) _
        refine XS.iloadN X0.here hx rfl (hb hby at_23) rfl ?_
        show Steps p.tables e below (s₁.setTop (mkF m 24 #[.val (.long p1), .second, .val (.int p2), .val (.int p3), .val (.int p4), .val (.long (10000000000 : Int64)), .second, .unset, .unset, .unset, .unset, .unset, .unset] [(.int p3), (.long ((p2.toInt64) * (10000000000 : Int64)))])) _
        refine XS.iconst X0.here hx rfl (hb hby at_24) ?_
        show Steps p.tables e below (s₁.setTop (mkF m 25 #[.val (.long p1), .second, .val (.int p2), .val (.int p3), .val (.int p4), .val (.long (10000000000 : Int64)), .second, .unset, .unset, .unset, .unset, .unset, .unset] [(.int (3 : Int32)), (.int p3), (.long ((p2.toInt64) * (10000000000 : Int64)))])) _
        refine XS.irem X0.here hx rfl (hb hby at_25) rfl (by decide) ?_
        show Steps p.tables e below (s₁.setTop (mkF m 26 #[.val (.long p1), .second, .val (.int p2), .val (.int p3), .val (.int p4), .val (.long (10000000000 : Int64)), .second, .unset, .unset, .unset, .unset, .unset, .unset] [(.int (p3 - (p3 / (3 : Int32)) * (3 : Int32))), (.long ((p2.toInt64) * (10000000000 : Int64)))])) _
        rw [own_irem]
        show Steps p.tables e below (s₁.setTop (mkF m 26 #[.val (.long p1), .second, .val (.int p2), .val (.int p3), .val (.int p4), .val (.long (10000000000 : Int64)), .second, .unset, .unset, .unset, .unset, .unset, .unset] [(.int (p3 % (3 : Int32))), (.long ((p2.toInt64) * (10000000000 : Int64)))])) _
        refine XT.i2l X0.here hx rfl (hb hby at_26) rfl ?_
        show Steps p.tables e below (s₁.setTop (mkF m 27 #[.val (.long p1), .second, .val (.int p2), .val (.int p3), .val (.int p4), .val (.long (10000000000 : Int64)), .second, .unset, .unset, .unset, .unset, .unset, .unset] [(.long ((p3 % (3 : Int32)).toInt64)), (.long ((p2.toInt64) * (10000000000 : Int64)))])) _
        refine XT.ladd X0.here hx rfl (hb hby at_27) rfl ?_
        show Steps p.tables e below (s₁.setTop (mkF m 28 #[.val (.long p1), .second, .val (.int p2), .val (.int p3), .val (.int p4), .val (.long (10000000000 : Int64)), .second, .unset, .unset, .unset, .unset, .unset, .unset] [(.long (((p2.toInt64) * (10000000000 : Int64)) + ((p3 % (3 : Int32)).toInt64)))])) _
        refine XT.lstore X0.here hx rfl (hb hby at_28) rfl (l' := #[.val (.long p1), .second, .val (.int p2), .val (.int p3), .val (.int p4), .val (.long (10000000000 : Int64)), .second, .val (.long (((p2.toInt64) * (10000000000 : Int64)) + ((p3 % (3 : Int32)).toInt64))), .second, .unset, .unset, .unset, .unset]) rfl ?_
        show Steps p.tables e below (s₁.setTop (mkF m 30 #[.val (.long p1), .second, .val (.int p2), .val (.int p3), .val (.int p4), .val (.long (10000000000 : Int64)), .second, .val (.long (((p2.toInt64) * (10000000000 : Int64)) + ((p3 % (3 : Int32)).toInt64))), .second, .unset, .unset, .unset, .unset] [])) _
        exact k)
      exact ⟨_, pre3⟩
  have pre3 : ∀ t, Steps p.tables e below (s₁.setTop (mkF m 41 #[.val (.long p1), .second, .val (.int p2), .val (.int p3), .val (.int p4), .val (.long (10000000000 : Int64)), .second, .val (.long ee), .second, .val (.long (ee - (ee / (10000000000 : Int64)) * (10000000000 : Int64))), .second, .unset, .unset] [(.int (XT.cmpL (ee - (ee / (10000000000 : Int64)) * (10000000000 : Int64)) (0 : Int64)))])) t → Steps p.tables e below (s₁.setTop (entryFrame m #[(.long p1), (.int p2), (.int p3), (.int p4)] maxLocals)) t := fun t k => preJ t (by
    show Steps p.tables e below (s₁.setTop (mkF m 30 #[.val (.long p1), .second, .val (.int p2), .val (.int p3), .val (.int p4), .val (.long (10000000000 : Int64)), .second, .val (.long ee), .second, .unset, .unset, .unset, .unset] [])) _
    refine XT.lload X0.here hx rfl (hb hby at_30) rfl ?_
    show Steps p.tables e below (s₁.setTop (mkF m 32 #[.val (.long p1), .second, .val (.int p2), .val (.int p3), .val (.int p4), .val (.long (10000000000 : Int64)), .second, .val (.long ee), .second, .unset, .unset, .unset, .unset] [(.long ee)])) _
    refine XT.lload X0.here hx rfl (hb hby at_32) rfl ?_
    show Steps p.tables e below (s₁.setTop (mkF m 34 #[.val (.long p1), .second, .val (.int p2), .val (.int p3), .val (.int p4), .val (.long (10000000000 : Int64)), .second, .val (.long ee), .second, .unset, .unset, .unset, .unset] [(.long (10000000000 : Int64)), (.long ee)])) _
    refine XT.lrem X0.here hx rfl (hb hby at_34) rfl (by decide) ?_
    show Steps p.tables e below (s₁.setTop (mkF m 35 #[.val (.long p1), .second, .val (.int p2), .val (.int p3), .val (.int p4), .val (.long (10000000000 : Int64)), .second, .val (.long ee), .second, .unset, .unset, .unset, .unset] [(.long (ee - (ee / (10000000000 : Int64)) * (10000000000 : Int64)))])) _
    refine XT.lstore X0.here hx rfl (hb hby at_35) rfl (l' := #[.val (.long p1), .second, .val (.int p2), .val (.int p3), .val (.int p4), .val (.long (10000000000 : Int64)), .second, .val (.long ee), .second, .val (.long (ee - (ee / (10000000000 : Int64)) * (10000000000 : Int64))), .second, .unset, .unset]) rfl ?_
    show Steps p.tables e below (s₁.setTop (mkF m 37 #[.val (.long p1), .second, .val (.int p2), .val (.int p3), .val (.int p4), .val (.long (10000000000 : Int64)), .second, .val (.long ee), .second, .val (.long (ee - (ee / (10000000000 : Int64)) * (10000000000 : Int64))), .second, .unset, .unset] [])) _
    refine XT.lload X0.here hx rfl (hb hby at_37) rfl ?_
    show Steps p.tables e below (s₁.setTop (mkF m 39 #[.val (.long p1), .second, .val (.int p2), .val (.int p3), .val (.int p4), .val (.long (10000000000 : Int64)), .second, .val (.long ee), .second, .val (.long (ee - (ee / (10000000000 : Int64)) * (10000000000 : Int64))), .second, .unset, .unset] [(.long (ee - (ee / (10000000000 : Int64)) * (10000000000 : Int64)))])) _
    refine XT.lconst X0.here hx rfl (hb hby at_39) ?_
    show Steps p.tables e below (s₁.setTop (mkF m 40 #[.val (.long p1), .second, .val (.int p2), .val (.int p3), .val (.int p4), .val (.long (10000000000 : Int64)), .second, .val (.long ee), .second, .val (.long (ee - (ee / (10000000000 : Int64)) * (10000000000 : Int64))), .second, .unset, .unset] [(.long (0 : Int64)), (.long (ee - (ee / (10000000000 : Int64)) * (10000000000 : Int64)))])) _
    refine XT.lcmp X0.here hx rfl (hb hby at_40) rfl ?_
    show Steps p.tables e below (s₁.setTop (mkF m 41 #[.val (.long p1), .second, .val (.int p2), .val (.int p3), .val (.int p4), .val (.long (10000000000 : Int64)), .second, .val (.long ee), .second, .val (.long (ee - (ee / (10000000000 : Int64)) * (10000000000 : Int64))), .second, .unset, .unset] [(.int (XT.cmpL (ee - (ee / (10000000000 : Int64)) * (10000000000 : Int64)) (0 : Int64)))])) _
    exact k)
  by_cases hm : (ee - (ee / (10000000000 : Int64)) * (10000000000 : Int64)) < 0
  · skip
    have pre4 : ∀ t, Steps p.tables e below (s₁.setTop (mkF m 60 #[.val (.long p1), .second, .val (.int p2), .val (.int p3), .val (.int p4), .val (.long (10000000000 : Int64)), .second, .val (.long ee), .second, .val (.long ((ee - (ee / (10000000000 : Int64)) * (10000000000 : Int64)) + (10000000000 : Int64))), .second, .val (.long (ee - ((ee - (ee / (10000000000 : Int64)) * (10000000000 : Int64)) + (10000000000 : Int64)))), .second] [(.long ee)])) t → Steps p.tables e below (s₁.setTop (entryFrame m #[(.long p1), (.int p2), (.int p3), (.int p4)] maxLocals)) t := fun t k => pre3 t (by
      show Steps p.tables e below (s₁.setTop (mkF m 41 #[.val (.long p1), .second, .val (.int p2), .val (.int p3), .val (.int p4), .val (.long (10000000000 : Int64)), .second, .val (.long ee), .second, .val (.long (ee - (ee / (10000000000 : Int64)) * (10000000000 : Int64))), .second, .unset, .unset] [(.int (XT.cmpL (ee - (ee / (10000000000 : Int64)) * (10000000000 : Int64)) (0 : Int64)))])) _
      refine XS.ifNo X0.here hx rfl (hb hby at_41) rfl (XT.ll_ge_f hm) ?_
      show Steps p.tables e below (s₁.setTop (mkF m 44 #[.val (.long p1), .second, .val (.int p2), .val (.int p3), .val (.int p4), .val (.long (10000000000 : Int64)), .second, .val (.long ee), .second, .val (.long (ee - (ee / (10000000000 : Int64)) * (10000000000 : Int64))), .second, .unset, .unset] [])) _
      refine XT.lload X0.here hx rfl (hb hby at_44) rfl ?_
      show Steps p.tables e below (s₁.setTop (mkF m 46 #[.val (.long p1), .second, .val (.int p2), .val (.int p3), .val (.int p4), .val (.long (10000000000 : Int64)), .second, .val (.long ee), .second, .val (.long (ee - (ee / (10000000000 : Int64)) * (10000000000 : Int64))), .second, .unset, .unset] [(.long (ee - (ee / (10000000000 : Int64)) * (10000000000 : Int64)))])) _
      refine XT.lload X0.here hx rfl (hb hby at_46) rfl ?_
      show Steps p.tables e below (s₁.setTop (mkF m 48 #[.val (.long p1), .second, .val (.int p2), .val (.int p3), .val (.int p4), .val (.long (10000000000 : Int64)), .second, .val (.long ee), .second, .val (.long (ee - (ee / (10000000000 : Int64)) * (10000000000 : Int64))), .second, .unset, .unset] [(.long (10000000000 : Int64)), (.long (ee - (ee / (10000000000 : Int64)) * (10000000000 : Int64)))])) _
      refine XT.ladd X0.here hx rfl (hb hby at_48) rfl ?_
      show Steps p.tables e below (s₁.setTop (mkF m 49 #[.val (.long p1), .second, .val (.int p2), .val (.int p3), .val (.int p4), .val (.long (10000000000 : Int64)), .second, .val (.long ee), .second, .val (.long (ee - (ee / (10000000000 : Int64)) * (10000000000 : Int64))), .second, .unset, .unset] [(.long ((ee - (ee / (10000000000 : Int64)) * (10000000000 : Int64)) + (10000000000 : Int64)))])) _
      refine XT.lstore X0.here hx rfl (hb hby at_49) rfl (l' := #[.val (.long p1), .second, .val (.int p2), .val (.int p3), .val (.int p4), .val (.long (10000000000 : Int64)), .second, .val (.long ee), .second, .val (.long ((ee - (ee / (10000000000 : Int64)) * (10000000000 : Int64)) + (10000000000 : Int64))), .second, .unset, .unset]) rfl ?_
      show Steps p.tables e below (s₁.setTop (mkF m 51 #[.val (.long p1), .second, .val (.int p2), .val (.int p3), .val (.int p4), .val (.long (10000000000 : Int64)), .second, .val (.long ee), .second, .val (.long ((ee - (ee / (10000000000 : Int64)) * (10000000000 : Int64)) + (10000000000 : Int64))), .second, .unset, .unset] [])) _
      refine XT.lload X0.here hx rfl (hb hby at_51) rfl ?_
      show Steps p.tables e below (s₁.setTop (mkF m 53 #[.val (.long p1), .second, .val (.int p2), .val (.int p3), .val (.int p4), .val (.long (10000000000 : Int64)), .second, .val (.long ee), .second, .val (.long ((ee - (ee / (10000000000 : Int64)) * (10000000000 : Int64)) + (10000000000 : Int64))), .second, .unset, .unset] [(.long ee)])) _
      refine XT.lload X0.here hx rfl (hb hby at_53) rfl ?_
      show Steps p.tables e below (s₁.setTop (mkF m 55 #[.val (.long p1), .second, .val (.int p2), .val (.int p3), .val (.int p4), .val (.long (10000000000 : Int64)), .second, .val (.long ee), .second, .val (.long ((ee - (ee / (10000000000 : Int64)) * (10000000000 : Int64)) + (10000000000 : Int64))), .second, .unset, .unset] [(.long ((ee - (ee / (10000000000 : Int64)) * (10000000000 : Int64)) + (10000000000 : Int64))), (.long ee)])) _
      refine XT.lsub X0.here hx rfl (hb hby at_55) rfl ?_
      show Steps p.tables e below (s₁.setTop (mkF m 56 #[.val (.long p1), .second, .val (.int p2), .val (.int p3), .val (.int p4), .val (.long (10000000000 : Int64)), .second, .val (.long ee), .second, .val (.long ((ee - (ee / (10000000000 : Int64)) * (10000000000 : Int64)) + (10000000000 : Int64))), .second, .unset, .unset] [(.long (ee - ((ee - (ee / (10000000000 : Int64)) * (10000000000 : Int64)) + (10000000000 : Int64))))])) _
      refine XT.lstore X0.here hx rfl (hb hby at_56) rfl (l' := #[.val (.long p1), .second, .val (.int p2), .val (.int p3), .val (.int p4), .val (.long (10000000000 : Int64)), .second, .val (.long ee), .second, .val (.long ((ee - (ee / (10000000000 : Int64)) * (10000000000 : Int64)) + (10000000000 : Int64))), .second, .val (.long (ee - ((ee - (ee / (10000000000 : Int64)) * (10000000000 : Int64)) + (10000000000 : Int64)))), .second]) rfl ?_
      show Steps p.tables e below (s₁.setTop (mkF m 58 #[.val (.long p1), .second, .val (.int p2), .val (.int p3), .val (.int p4), .val (.long (10000000000 : Int64)), .second, .val (.long ee), .second, .val (.long ((ee - (ee / (10000000000 : Int64)) * (10000000000 : Int64)) + (10000000000 : Int64))), .second, .val (.long (ee - ((ee - (ee / (10000000000 : Int64)) * (10000000000 : Int64)) + (10000000000 : Int64)))), .second] [])) _
      refine XT.lload X0.here hx rfl (hb hby at_58) rfl ?_
      show Steps p.tables e below (s₁.setTop (mkF m 60 #[.val (.long p1), .second, .val (.int p2), .val (.int p3), .val (.int p4), .val (.long (10000000000 : Int64)), .second, .val (.long ee), .second, .val (.long ((ee - (ee / (10000000000 : Int64)) * (10000000000 : Int64)) + (10000000000 : Int64))), .second, .val (.long (ee - ((ee - (ee / (10000000000 : Int64)) * (10000000000 : Int64)) + (10000000000 : Int64)))), .second] [(.long ee)])) _
      exact k)
    obtain ⟨_, _, ⟨T5, L5, kk5, nn5⟩, -, X5, ⟨Lc5, hQ5, l5, y5, z5⟩, st5⟩ := Jvm.LawKit.callS X0 hx (y := (⟨"com/example/spanfacet/spanfacet/StatsBucket", "startOf", "(J)J"⟩ : MethodName)) hown (mvT hZ (hw _ (List.mem_of_getElem? (i := 1) rfl))) (mvT hZ (hw _ (List.mem_of_getElem? (i := 2) rfl))) (mvT hZ (hw _ (List.mem_of_getElem? (i := 3) rfl))) (mvT hZ (hw _ (List.mem_of_getElem? (i := 4) rfl))) (by decide) (backOf (W := 0) (rm_so l Z a0 hw [] ee h0 n0 Z0 ) hZ (hw _ (List.mem_of_getElem? (i := 4) rfl)) (hw _ (List.mem_of_getElem? (i := 3) rfl)) (by decide) (by decide)) (g := (mkF m 60 #[.val (.long p1), .second, .val (.int p2), .val (.int p3), .val (.int p4), .val (.long (10000000000 : Int64)), .second, .val (.long ee), .second, .val (.long ((ee - (ee / (10000000000 : Int64)) * (10000000000 : Int64)) + (10000000000 : Int64))), .second, .val (.long (ee - ((ee - (ee / (10000000000 : Int64)) * (10000000000 : Int64)) + (10000000000 : Int64)))), .second] [(.long ee)])) rfl (by rw [hml]; rfl) (argsL := [(.long ee)]) (rest := []) (lenOf pd__J_J rfl) rfl (by show 2 * 0 + _ ≤ _; exact Nat.le_of_eq rfl) (hb hby at_60) (fun _ _ => ⟨rfl, e0, (by decide : 0 + 0 ≤ _), (by decide : 0 + 0 ≤ _)⟩)
    dsimp only [Pt.U, Pt.locs, Pt.cells, Pt.slots] at X5 l5 y5 z5 st5 hQ5
    subst l5 y5 z5
    obtain ⟨rfl, N5q, eq5⟩ := hQ5
    have N5 := Fr.app N0 N5q
    have pre6 : ∀ t, Steps p.tables e below (T5.setTop (mkF m 74 #[.val (.long p1), .second, .val (.int p2), .val (.int p3), .val (.int p4), .val (.long (10000000000 : Int64)), .second, .val (.long ee), .second, .val (.long ((ee - (ee / (10000000000 : Int64)) * (10000000000 : Int64)) + (10000000000 : Int64))), .second, .val (.long (ee - ((ee - (ee / (10000000000 : Int64)) * (10000000000 : Int64)) + (10000000000 : Int64)))), .second] [(.int (1 : Int32))])) t → Steps p.tables e below (s₁.setTop (entryFrame m #[(.long p1), (.int p2), (.int p3), (.int p4)] maxLocals)) t := fun t k => pre4 t (by
      show Steps p.tables e below (s₁.setTop (mkF m 60 #[.val (.long p1), .second, .val (.int p2), .val (.int p3), .val (.int p4), .val (.long (10000000000 : Int64)), .second, .val (.long ee), .second, .val (.long ((ee - (ee / (10000000000 : Int64)) * (10000000000 : Int64)) + (10000000000 : Int64))), .second, .val (.long (ee - ((ee - (ee / (10000000000 : Int64)) * (10000000000 : Int64)) + (10000000000 : Int64)))), .second] [(.long ee)])) _
      refine st5 _ ?_
      show Steps p.tables e below (T5.setTop (mkF m 63 #[.val (.long p1), .second, .val (.int p2), .val (.int p3), .val (.int p4), .val (.long (10000000000 : Int64)), .second, .val (.long ee), .second, .val (.long ((ee - (ee / (10000000000 : Int64)) * (10000000000 : Int64)) + (10000000000 : Int64))), .second, .val (.long (ee - ((ee - (ee / (10000000000 : Int64)) * (10000000000 : Int64)) + (10000000000 : Int64)))), .second] [(.long (own_fd ee * (10000000000 : Int64)))])) _
      refine XT.lload X5.here hx rfl (hb hby at_63) rfl ?_
      show Steps p.tables e below (T5.setTop (mkF m 65 #[.val (.long p1), .second, .val (.int p2), .val (.int p3), .val (.int p4), .val (.long (10000000000 : Int64)), .second, .val (.long ee), .second, .val (.long ((ee - (ee / (10000000000 : Int64)) * (10000000000 : Int64)) + (10000000000 : Int64))), .second, .val (.long (ee - ((ee - (ee / (10000000000 : Int64)) * (10000000000 : Int64)) + (10000000000 : Int64)))), .second] [(.long (ee - ((ee - (ee / (10000000000 : Int64)) * (10000000000 : Int64)) + (10000000000 : Int64)))), (.long (own_fd ee * (10000000000 : Int64)))])) _
      refine XT.lcmp X5.here hx rfl (hb hby at_65) rfl ?_
      show Steps p.tables e below (T5.setTop (mkF m 66 #[.val (.long p1), .second, .val (.int p2), .val (.int p3), .val (.int p4), .val (.long (10000000000 : Int64)), .second, .val (.long ee), .second, .val (.long ((ee - (ee / (10000000000 : Int64)) * (10000000000 : Int64)) + (10000000000 : Int64))), .second, .val (.long (ee - ((ee - (ee / (10000000000 : Int64)) * (10000000000 : Int64)) + (10000000000 : Int64)))), .second] [(.int (XT.cmpL (own_fd ee * (10000000000 : Int64)) (ee - ((ee - (ee / (10000000000 : Int64)) * (10000000000 : Int64)) + (10000000000 : Int64)))))])) _
      refine XS.ifNo X5.here hx rfl (hb hby at_66) rfl (XT.ll_ne_f (own_eqB hm)) ?_
      show Steps p.tables e below (T5.setTop (mkF m 69 #[.val (.long p1), .second, .val (.int p2), .val (.int p3), .val (.int p4), .val (.long (10000000000 : Int64)), .second, .val (.long ee), .second, .val (.long ((ee - (ee / (10000000000 : Int64)) * (10000000000 : Int64)) + (10000000000 : Int64))), .second, .val (.long (ee - ((ee - (ee / (10000000000 : Int64)) * (10000000000 : Int64)) + (10000000000 : Int64)))), .second] [])) _
      refine XS.iconst X5.here hx rfl (hb hby at_69) ?_
      show Steps p.tables e below (T5.setTop (mkF m 70 #[.val (.long p1), .second, .val (.int p2), .val (.int p3), .val (.int p4), .val (.long (10000000000 : Int64)), .second, .val (.long ee), .second, .val (.long ((ee - (ee / (10000000000 : Int64)) * (10000000000 : Int64)) + (10000000000 : Int64))), .second, .val (.long (ee - ((ee - (ee / (10000000000 : Int64)) * (10000000000 : Int64)) + (10000000000 : Int64)))), .second] [(.int (1 : Int32))])) _
      refine XS.goto X5.here hx rfl (pc0 := 70) (pc' := 74) rfl (hb hby at_70) (by decide) (by decide) ?_
      show Steps p.tables e below (T5.setTop (mkF m 74 #[.val (.long p1), .second, .val (.int p2), .val (.int p3), .val (.int p4), .val (.long (10000000000 : Int64)), .second, .val (.long ee), .second, .val (.long ((ee - (ee / (10000000000 : Int64)) * (10000000000 : Int64)) + (10000000000 : Int64))), .second, .val (.long (ee - ((ee - (ee / (10000000000 : Int64)) * (10000000000 : Int64)) + (10000000000 : Int64)))), .second] [(.int (1 : Int32))])) _
      exact k)
    obtain ⟨fs, hr, hrun, hended, hW, hsame⟩ := X5.leave (v := some (.int (1 : Int32))) (fun h => by rw [Bd.returns] at h; cases h)
    refine ⟨_, _, pre6 _ ?_, hrun, hended, _, _, rfl, ?_, ⟨_, rfl⟩, hW, hsame.mono (by decide) (by decide)⟩
    · exact retN X5 hx (t := .boolean) Bd.returns (by simp) (hb hby at_74) hr
    · show Q_0 Z p1 p2 p3 p4 h0 n0 _ T5.heap _
      rw [eq5]
      exact ⟨rfl, N5⟩
  · skip
    have pre4 : ∀ t, Steps p.tables e below (s₁.setTop (mkF m 60 #[.val (.long p1), .second, .val (.int p2), .val (.int p3), .val (.int p4), .val (.long (10000000000 : Int64)), .second, .val (.long ee), .second, .val (.long (ee - (ee / (10000000000 : Int64)) * (10000000000 : Int64))), .second, .val (.long (ee - (ee - (ee / (10000000000 : Int64)) * (10000000000 : Int64)))), .second] [(.long ee)])) t → Steps p.tables e below (s₁.setTop (entryFrame m #[(.long p1), (.int p2), (.int p3), (.int p4)] maxLocals)) t := fun t k => pre3 t (by
      show Steps p.tables e below (s₁.setTop (mkF m 41 #[.val (.long p1), .second, .val (.int p2), .val (.int p3), .val (.int p4), .val (.long (10000000000 : Int64)), .second, .val (.long ee), .second, .val (.long (ee - (ee / (10000000000 : Int64)) * (10000000000 : Int64))), .second, .unset, .unset] [(.int (XT.cmpL (ee - (ee / (10000000000 : Int64)) * (10000000000 : Int64)) (0 : Int64)))])) _
      refine XS.ifYes X0.here hx rfl (pc0 := 41) (pc' := 51) rfl (hb hby at_41) rfl (XT.ll_ge_t hm) (by decide) (by decide) ?_
      show Steps p.tables e below (s₁.setTop (mkF m 51 #[.val (.long p1), .second, .val (.int p2), .val (.int p3), .val (.int p4), .val (.long (10000000000 : Int64)), .second, .val (.long ee), .second, .val (.long (ee - (ee / (10000000000 : Int64)) * (10000000000 : Int64))), .second, .unset, .unset] [])) _
      refine XT.lload X0.here hx rfl (hb hby at_51) rfl ?_
      show Steps p.tables e below (s₁.setTop (mkF m 53 #[.val (.long p1), .second, .val (.int p2), .val (.int p3), .val (.int p4), .val (.long (10000000000 : Int64)), .second, .val (.long ee), .second, .val (.long (ee - (ee / (10000000000 : Int64)) * (10000000000 : Int64))), .second, .unset, .unset] [(.long ee)])) _
      refine XT.lload X0.here hx rfl (hb hby at_53) rfl ?_
      show Steps p.tables e below (s₁.setTop (mkF m 55 #[.val (.long p1), .second, .val (.int p2), .val (.int p3), .val (.int p4), .val (.long (10000000000 : Int64)), .second, .val (.long ee), .second, .val (.long (ee - (ee / (10000000000 : Int64)) * (10000000000 : Int64))), .second, .unset, .unset] [(.long (ee - (ee / (10000000000 : Int64)) * (10000000000 : Int64))), (.long ee)])) _
      refine XT.lsub X0.here hx rfl (hb hby at_55) rfl ?_
      show Steps p.tables e below (s₁.setTop (mkF m 56 #[.val (.long p1), .second, .val (.int p2), .val (.int p3), .val (.int p4), .val (.long (10000000000 : Int64)), .second, .val (.long ee), .second, .val (.long (ee - (ee / (10000000000 : Int64)) * (10000000000 : Int64))), .second, .unset, .unset] [(.long (ee - (ee - (ee / (10000000000 : Int64)) * (10000000000 : Int64))))])) _
      refine XT.lstore X0.here hx rfl (hb hby at_56) rfl (l' := #[.val (.long p1), .second, .val (.int p2), .val (.int p3), .val (.int p4), .val (.long (10000000000 : Int64)), .second, .val (.long ee), .second, .val (.long (ee - (ee / (10000000000 : Int64)) * (10000000000 : Int64))), .second, .val (.long (ee - (ee - (ee / (10000000000 : Int64)) * (10000000000 : Int64)))), .second]) rfl ?_
      show Steps p.tables e below (s₁.setTop (mkF m 58 #[.val (.long p1), .second, .val (.int p2), .val (.int p3), .val (.int p4), .val (.long (10000000000 : Int64)), .second, .val (.long ee), .second, .val (.long (ee - (ee / (10000000000 : Int64)) * (10000000000 : Int64))), .second, .val (.long (ee - (ee - (ee / (10000000000 : Int64)) * (10000000000 : Int64)))), .second] [])) _
      refine XT.lload X0.here hx rfl (hb hby at_58) rfl ?_
      show Steps p.tables e below (s₁.setTop (mkF m 60 #[.val (.long p1), .second, .val (.int p2), .val (.int p3), .val (.int p4), .val (.long (10000000000 : Int64)), .second, .val (.long ee), .second, .val (.long (ee - (ee / (10000000000 : Int64)) * (10000000000 : Int64))), .second, .val (.long (ee - (ee - (ee / (10000000000 : Int64)) * (10000000000 : Int64)))), .second] [(.long ee)])) _
      exact k)
    obtain ⟨_, _, ⟨T5, L5, kk5, nn5⟩, -, X5, ⟨Lc5, hQ5, l5, y5, z5⟩, st5⟩ := Jvm.LawKit.callS X0 hx (y := (⟨"com/example/spanfacet/spanfacet/StatsBucket", "startOf", "(J)J"⟩ : MethodName)) hown (mvT hZ (hw _ (List.mem_of_getElem? (i := 1) rfl))) (mvT hZ (hw _ (List.mem_of_getElem? (i := 2) rfl))) (mvT hZ (hw _ (List.mem_of_getElem? (i := 3) rfl))) (mvT hZ (hw _ (List.mem_of_getElem? (i := 4) rfl))) (by decide) (backOf (W := 0) (rm_so l Z a0 hw [] ee h0 n0 Z0 ) hZ (hw _ (List.mem_of_getElem? (i := 4) rfl)) (hw _ (List.mem_of_getElem? (i := 3) rfl)) (by decide) (by decide)) (g := (mkF m 60 #[.val (.long p1), .second, .val (.int p2), .val (.int p3), .val (.int p4), .val (.long (10000000000 : Int64)), .second, .val (.long ee), .second, .val (.long (ee - (ee / (10000000000 : Int64)) * (10000000000 : Int64))), .second, .val (.long (ee - (ee - (ee / (10000000000 : Int64)) * (10000000000 : Int64)))), .second] [(.long ee)])) rfl (by rw [hml]; rfl) (argsL := [(.long ee)]) (rest := []) (lenOf pd__J_J rfl) rfl (by show 2 * 0 + _ ≤ _; exact Nat.le_of_eq rfl) (hb hby at_60) (fun _ _ => ⟨rfl, e0, (by decide : 0 + 0 ≤ _), (by decide : 0 + 0 ≤ _)⟩)
    dsimp only [Pt.U, Pt.locs, Pt.cells, Pt.slots] at X5 l5 y5 z5 st5 hQ5
    subst l5 y5 z5
    obtain ⟨rfl, N5q, eq5⟩ := hQ5
    have N5 := Fr.app N0 N5q
    have pre6 : ∀ t, Steps p.tables e below (T5.setTop (mkF m 74 #[.val (.long p1), .second, .val (.int p2), .val (.int p3), .val (.int p4), .val (.long (10000000000 : Int64)), .second, .val (.long ee), .second, .val (.long (ee - (ee / (10000000000 : Int64)) * (10000000000 : Int64))), .second, .val (.long (ee - (ee - (ee / (10000000000 : Int64)) * (10000000000 : Int64)))), .second] [(.int (1 : Int32))])) t → Steps p.tables e below (s₁.setTop (entryFrame m #[(.long p1), (.int p2), (.int p3), (.int p4)] maxLocals)) t := fun t k => pre4 t (by
      show Steps p.tables e below (s₁.setTop (mkF m 60 #[.val (.long p1), .second, .val (.int p2), .val (.int p3), .val (.int p4), .val (.long (10000000000 : Int64)), .second, .val (.long ee), .second, .val (.long (ee - (ee / (10000000000 : Int64)) * (10000000000 : Int64))), .second, .val (.long (ee - (ee - (ee / (10000000000 : Int64)) * (10000000000 : Int64)))), .second] [(.long ee)])) _
      refine st5 _ ?_
      show Steps p.tables e below (T5.setTop (mkF m 63 #[.val (.long p1), .second, .val (.int p2), .val (.int p3), .val (.int p4), .val (.long (10000000000 : Int64)), .second, .val (.long ee), .second, .val (.long (ee - (ee / (10000000000 : Int64)) * (10000000000 : Int64))), .second, .val (.long (ee - (ee - (ee / (10000000000 : Int64)) * (10000000000 : Int64)))), .second] [(.long (own_fd ee * (10000000000 : Int64)))])) _
      refine XT.lload X5.here hx rfl (hb hby at_63) rfl ?_
      show Steps p.tables e below (T5.setTop (mkF m 65 #[.val (.long p1), .second, .val (.int p2), .val (.int p3), .val (.int p4), .val (.long (10000000000 : Int64)), .second, .val (.long ee), .second, .val (.long (ee - (ee / (10000000000 : Int64)) * (10000000000 : Int64))), .second, .val (.long (ee - (ee - (ee / (10000000000 : Int64)) * (10000000000 : Int64)))), .second] [(.long (ee - (ee - (ee / (10000000000 : Int64)) * (10000000000 : Int64)))), (.long (own_fd ee * (10000000000 : Int64)))])) _
      refine XT.lcmp X5.here hx rfl (hb hby at_65) rfl ?_
      show Steps p.tables e below (T5.setTop (mkF m 66 #[.val (.long p1), .second, .val (.int p2), .val (.int p3), .val (.int p4), .val (.long (10000000000 : Int64)), .second, .val (.long ee), .second, .val (.long (ee - (ee / (10000000000 : Int64)) * (10000000000 : Int64))), .second, .val (.long (ee - (ee - (ee / (10000000000 : Int64)) * (10000000000 : Int64)))), .second] [(.int (XT.cmpL (own_fd ee * (10000000000 : Int64)) (ee - (ee - (ee / (10000000000 : Int64)) * (10000000000 : Int64)))))])) _
      refine XS.ifNo X5.here hx rfl (hb hby at_66) rfl (XT.ll_ne_f (own_eqA hm)) ?_
      show Steps p.tables e below (T5.setTop (mkF m 69 #[.val (.long p1), .second, .val (.int p2), .val (.int p3), .val (.int p4), .val (.long (10000000000 : Int64)), .second, .val (.long ee), .second, .val (.long (ee - (ee / (10000000000 : Int64)) * (10000000000 : Int64))), .second, .val (.long (ee - (ee - (ee / (10000000000 : Int64)) * (10000000000 : Int64)))), .second] [])) _
      refine XS.iconst X5.here hx rfl (hb hby at_69) ?_
      show Steps p.tables e below (T5.setTop (mkF m 70 #[.val (.long p1), .second, .val (.int p2), .val (.int p3), .val (.int p4), .val (.long (10000000000 : Int64)), .second, .val (.long ee), .second, .val (.long (ee - (ee / (10000000000 : Int64)) * (10000000000 : Int64))), .second, .val (.long (ee - (ee - (ee / (10000000000 : Int64)) * (10000000000 : Int64)))), .second] [(.int (1 : Int32))])) _
      refine XS.goto X5.here hx rfl (pc0 := 70) (pc' := 74) rfl (hb hby at_70) (by decide) (by decide) ?_
      show Steps p.tables e below (T5.setTop (mkF m 74 #[.val (.long p1), .second, .val (.int p2), .val (.int p3), .val (.int p4), .val (.long (10000000000 : Int64)), .second, .val (.long ee), .second, .val (.long (ee - (ee / (10000000000 : Int64)) * (10000000000 : Int64))), .second, .val (.long (ee - (ee - (ee / (10000000000 : Int64)) * (10000000000 : Int64)))), .second] [(.int (1 : Int32))])) _
      exact k)
    obtain ⟨fs, hr, hrun, hended, hW, hsame⟩ := X5.leave (v := some (.int (1 : Int32))) (fun h => by rw [Bd.returns] at h; cases h)
    refine ⟨_, _, pre6 _ ?_, hrun, hended, _, _, rfl, ?_, ⟨_, rfl⟩, hW, hsame.mono (by decide) (by decide)⟩
    · exact retN X5 hx (t := .boolean) Bd.returns (by simp) (hb hby at_74) hr
    · show Q_0 Z p1 p2 p3 p4 h0 n0 _ T5.heap _
      rw [eq5]
      exact ⟨rfl, N5⟩
set_option maxRecDepth 65536 in
set_option maxHeartbeats 40000000 in
theorem comes_1 {Post : Tables → Env → Array Value → State → Outcome → State → Prop} (hpost : ∀ tb e args s v u, (limb_1_1.after args s (.returned v) u = true ∧ limb_1_2.after args s (.returned v) u = true ∧ True) → FrameEnd s (.returned v) u (Jvm.fieldLocs frame_1_writes args s ++ Jvm.arrayLocs frame_1_arrays args s ++ Jvm.staticLocs frame_1_statics s) 0 0 → Post tb e args s (.returned v) u) :
    ArmFor flags0 classFile x code maxLocals ret World_1 tables_1 room_1 Calls_1 rest_1 Pre_1 Post := by
  intro l hfl _ _ p e ha hc hk s m args below hf hA hF happ hP
  obtain ⟨hcalls, hrest, hpre⟩ := hP
  obtain ⟨-, -, -, hnamed, -, -, -, hat⟩ := (Spec.applies_iff hf).mp happ
  obtain ⟨hg, hn⟩ := and_e (Cond.before_iff.mp (show (Jvm.Cond.and given_1 narrow_1).before args s = true from hpre))
  obtain ⟨gc, hg⟩ := and_e hg
  obtain ⟨gi0, hg⟩ := and_e hg
  obtain ⟨gi1, hg⟩ := and_e hg
  obtain ⟨gi2, hg⟩ := and_e hg
  have gi3 := hg
  obtain ⟨w0, w1, w2, w3, rfl⟩ : ∃ w0 w1 w2 w3 : Value, args = #[w0, w1, w2, w3] := by
    have hs : args.size = 4 := by simpa [Cond.value, given_1] using gc
    obtain ⟨L⟩ := args
    match L, hs with
    | [w0, w1, w2, w3], _ => exact ⟨w0, w1, w2, w3, rfl⟩
  have hw := fun d (hd : d ∈ tables_1) => atoms_spec (ws := Jvm.Cond.code x code maxLocals ret :: tables_1) hat d (List.mem_cons_of_mem _ hd)
  have hfit : Fit s := fun {y c} hc i hi => by
    obtain ⟨ha, rfl⟩ := Array.getElem?_eq_some_iff.mp hc
    have q := List.all_eq_true.mp ((Array.all_eq_true_iff_forall_mem.mp hF) _ (Array.getElem_mem ha)) i (List.mem_range.mpr hi)
    simpa [Array.getElem?_eq_getElem hi] using q
  obtain ⟨i0, ei0⟩ := isL_v gi0
  obtain rfl : w0 = (.long i0) := Option.some.inj ei0
  obtain ⟨i1, ei1⟩ := is_v gi1
  obtain rfl : w1 = (.int i1) := Option.some.inj ei1
  obtain ⟨i2, ei2⟩ := is_v gi2
  obtain rfl : w2 = (.int i2) := Option.some.inj ei2
  obtain ⟨i3, ei3⟩ := is_v gi3
  obtain rfl : w3 = (.int i3) := Option.some.inj ei3
  obtain ⟨n, o, h1, h2, h3, _, L, rfl, ⟨rfl, N⟩, hq⟩ := rm_0 l s _ hw tables_1 i0 i1 i2 i3  s.heap s.heap.size (Nat.le_refl _)  p e ha hc hk s m _ below hf ((Spec.applies_iff_loose hf).mp happ).1 ⟨rfl, State.Warmed39.refl s, rfl⟩ trivial
  refine ⟨n, _, h1, h2, h3, hpost _ _ _ _ _ _ ⟨Cond.after_iff.mpr rfl, Cond.after_iff.mpr (eq_i res_at (Term.int_eval (1)) rfl), trivial⟩ ⟨hq.1, hq.2.1, (hq.2.2.sift fun y hy => Or.inr (N y hy)).mono (by decide) (by decide)⟩⟩
theorem main_1_1 : Claimed_1_1 := comes_1 fun _ _ _ _ _ _ h hF => ⟨h.1, hF⟩
theorem main_1_2 : Claimed_1_2 := comes_1 fun _ _ _ _ _ _ h hF => ⟨h.2.1, hF⟩
end Jvm.Pilot.@@N@@
namespace Jvm.Pilot.@@N@@
open Jvm Jvm.ClassFile Sem Op Lib Jvm.Free Jvm.Stand Jvm.Pilot.@@N@@.Jvm.D
/-! MADE BY PROGRAM (witnessworld.py) out of the Statement's table words and the real class files: 10 classes; the members and pool entries that the words name. The judged class is class 1, her method 1. -/
namespace start1
open Jvm.ClassFile
def u (s : String) : CpInfo := .utf8 (stringToUtf16 s)
/-- a pool by its gaps: so many unusable entries, then the entry; so many at the end -/
def gap : Nat → List CpInfo → List CpInfo
  | 0, r => r
  | n + 1, r => .unusable :: gap n r
def poolList (es : List (Nat × CpInfo)) (last : Nat) : List CpInfo := es.foldr (fun e r => gap e.1 (e.2 :: r)) (gap last [])
def pool (es : List (Nat × CpInfo)) (last : Nat) : Array CpInfo := ⟨poolList es last⟩
def fileOf (pool : Array CpInfo) (this : Nat) (attrs : Array Attribute := #[]) (ms : Array MethodInfo := #[]) (fl : Nat := 33) (sup : Nat := 0) (ifs : Array Nat := #[]) (fds : Array FieldInfo := #[]) : ClassFile where
  minorVersion := 0
  majorVersion := 65
  constantPool := pool
  accessFlags := fl
  thisClass := this
  superClass := sup
  interfaces := ifs
  fields := fds
  methods := ms
  attributes := attrs
def plain (name : String) (sup : Option ClassId) : Class where
  name := name
  kind := .ordinary
  loader := none
  accessFlags := 33
  super := sup
  interfaces := #[]
  cf := none
  fields := #[]
  methods := #[]
  instanceTypes := #[]
  staticTypes := #[]
  resolved := #[]
  callSites := []
  init := .initialized
  statics := none
  mirror := none

def pool0 : Array CpInfo := pool [(5, u "<init>"), (0, u "()V"), (1, .class_ 10), (1, u "java/lang/Object")] 113

def k0m0 : Method := { name := "<init>", desc := "()V", sig := { parameters := [], returnType := none }, accessFlags := 1, code := none }
/-- java/lang/Object -/
def k0 : Class := { plain "java/lang/Object" none with
  accessFlags := 33
  interfaces := #[]
  cf := some (fileOf pool0 8 #[] #[{ accessFlags := 1, nameIndex := 5, descriptorIndex := 6, attributes := #[] }] 33 0 #[] #[])
  fields := #[]
  methods := #[k0m0]
  instanceTypes := #[]
  staticTypes := #[]
  resolved := Array.replicate 124 none
  statics := none }

def pool1 : Array CpInfo := pool [(2, .class_ 4), (1, u "java/lang/Object"), (0, u "<init>"), (0, u "()V"), (0, .long 10000000000), (1, .methodref 10 11), (0, .class_ 12), (0, .nameAndType 13 14), (0, u "com/example/spanfacet/spanfacet/StatsBucket"), (0, u "startOf"), (0, u "(J)J"), (0, .class_ 16), (0, u "com/example/spanfacet/spanfacet/StatsBucketStartOfPinLaw"), (2, u "law"), (0, u "(JIII)Z")] 3

def k1m0 : Method := { name := "<init>", desc := "()V", sig := { parameters := [], returnType := none }, accessFlags := 1, code := none }
def k1c1 : Code := { maxStack := 4, maxLocals := 13, code := code, exceptionTable := #[], attributes := #[] }
def k1m1 : Method := { name := "law", desc := "(JIII)Z", sig := { parameters := [.long, .int, .int, .int], returnType := some .boolean }, accessFlags := 9, code := some k1c1 }
/-- com/example/spanfacet/spanfacet/StatsBucketStartOfPinLaw -/
def k1 : Class := { plain "com/example/spanfacet/spanfacet/StatsBucketStartOfPinLaw" (some 0) with
  accessFlags := 49
  interfaces := #[]
  cf := some (fileOf pool1 15 #[] #[{ accessFlags := 1, nameIndex := 5, descriptorIndex := 6, attributes := #[] }, { accessFlags := 9, nameIndex := 19, descriptorIndex := 20, attributes := #[] }] 49 2 #[] #[])
  fields := #[]
  methods := #[k1m0, k1m1]
  instanceTypes := #[]
  staticTypes := #[]
  resolved := Array.replicate 24 none
  statics := none }

def pool2 : Array CpInfo := pool [(2, .class_ 4), (1, u "java/lang/Object"), (6, .class_ 13), (1, u "com/example/spanfacet/spanfacet/StatsBucket"), (0, u "groups"), (0, u "Lcom/example/spanfacet/spanfacet/GroupTable;"), (2, u "start"), (0, u "J"), (2, u "tagValues"), (0, u "Lcom/example/spanfacet/spanfacet/TagValueBudget;"), (2, u "maxGroups"), (0, u "I"), (2, u "overflowSpans"), (0, u "Ljava/util/concurrent/atomic/AtomicLong;"), (0, .long 10000000000), (1, .methodref 35 36), (0, .class_ 37), (0, .nameAndType 38 39), (0, u "java/lang/Math"), (0, u "floorDiv"), (0, u "(JJ)J"), (23, u "overflow"), (0, u "Lcom/example/spanfacet/spanfacet/GroupCounts;"), (39, u "LENGTH_NANOS"), (4, u "startOf"), (0, u "(J)J")] 8

def k2c0 : Code := { maxStack := 4, maxLocals := 2, code := prog_17_method_2_code, exceptionTable := #[], attributes := #[] }
def k2m0 : Method := { name := "startOf", desc := "(J)J", sig := { parameters := [.long], returnType := some .long }, accessFlags := 8, code := some k2c0 }
/-- com/example/spanfacet/spanfacet/StatsBucket -/
def k2 : Class := { plain "com/example/spanfacet/spanfacet/StatsBucket" (some 0) with
  accessFlags := 48
  interfaces := #[]
  cf := some (fileOf pool2 11 #[] #[{ accessFlags := 8, nameIndex := 109, descriptorIndex := 110, attributes := #[] }] 48 2 #[] #[{ accessFlags := 24, nameIndex := 104, descriptorIndex := 19, attributes := #[] }, { accessFlags := 18, nameIndex := 18, descriptorIndex := 19, attributes := #[] }, { accessFlags := 18, nameIndex := 14, descriptorIndex := 15, attributes := #[] }, { accessFlags := 2, nameIndex := 63, descriptorIndex := 64, attributes := #[] }, { accessFlags := 18, nameIndex := 22, descriptorIndex := 23, attributes := #[] }, { accessFlags := 18, nameIndex := 26, descriptorIndex := 27, attributes := #[] }, { accessFlags := 18, nameIndex := 30, descriptorIndex := 31, attributes := #[] }])
  fields := #[{ name := "LENGTH_NANOS", type := .long, accessFlags := 24, slot := 0, constantValue := 0 }, { name := "start", type := .long, accessFlags := 18, slot := 0, constantValue := 0 }, { name := "groups", type := (.object "com/example/spanfacet/spanfacet/GroupTable"), accessFlags := 18, slot := 1, constantValue := 0 }, { name := "overflow", type := (.object "com/example/spanfacet/spanfacet/GroupCounts"), accessFlags := 2, slot := 2, constantValue := 0 }, { name := "tagValues", type := (.object "com/example/spanfacet/spanfacet/TagValueBudget"), accessFlags := 18, slot := 3, constantValue := 0 }, { name := "maxGroups", type := .int, accessFlags := 18, slot := 4, constantValue := 0 }, { name := "overflowSpans", type := (.object "java/util/concurrent/atomic/AtomicLong"), accessFlags := 18, slot := 5, constantValue := 0 }]
  methods := #[k2m0]
  instanceTypes := #[.long, (.object "com/example/spanfacet/spanfacet/GroupTable"), (.object "com/example/spanfacet/spanfacet/GroupCounts"), (.object "com/example/spanfacet/spanfacet/TagValueBudget"), .int, (.object "java/util/concurrent/atomic/AtomicLong")]
  staticTypes := #[.long]
  resolved := Array.replicate 119 none
  statics := none }

def pool3 : Array CpInfo := pool [(1, .class_ 2), (0, u "java/lang/Math"), (1, .class_ 6), (1, u "java/lang/Object"), (0, u "<init>"), (0, u "()V"), (89, .class_ 100), (1, u "java/lang/Math$RandomNumberGeneratorHolder"), (20, u "(JJ)J"), (23, u "floorDiv"), (26, u "negativeZeroFloatBits"), (0, u "J"), (2, u "negativeZeroDoubleBits"), (68, u "$assertionsDisabled"), (0, u "Z"), (91, u "twoToTheDoubleScaleDown"), (0, u "D"), (4, u "twoToTheDoubleScaleUp"), (9, u "E"), (3, u "PI"), (2, u "TAU"), (2, u "DEGREES_TO_RADIANS"), (0, u "RADIANS_TO_DEGREES")] 94

def k3m0 : Method := { name := "<init>", desc := "()V", sig := { parameters := [], returnType := none }, accessFlags := 2, code := none }
def k3c1 : Code := { maxStack := 4, maxLocals := 6, code := jdk_29_method_49_code, exceptionTable := #[], attributes := #[] }
def k3m1 : Method := { name := "floorDiv", desc := "(JJ)J", sig := { parameters := [.long, .long], returnType := some .long }, accessFlags := 9, code := some k3c1 }
/-- java/lang/Math -/
def k3 : Class := { plain "java/lang/Math" (some 0) with
  accessFlags := 49
  interfaces := #[]
  cf := some (fileOf pool3 1 #[.nestMembers #[98]] #[{ accessFlags := 2, nameIndex := 7, descriptorIndex := 8, attributes := #[] }, { accessFlags := 9, nameIndex := 145, descriptorIndex := 121, attributes := #[] }] 49 4 #[] #[{ accessFlags := 25, nameIndex := 354, descriptorIndex := 339, attributes := #[] }, { accessFlags := 25, nameIndex := 358, descriptorIndex := 339, attributes := #[] }, { accessFlags := 25, nameIndex := 361, descriptorIndex := 339, attributes := #[] }, { accessFlags := 26, nameIndex := 364, descriptorIndex := 339, attributes := #[] }, { accessFlags := 26, nameIndex := 365, descriptorIndex := 339, attributes := #[] }, { accessFlags := 26, nameIndex := 172, descriptorIndex := 173, attributes := #[] }, { accessFlags := 26, nameIndex := 176, descriptorIndex := 173, attributes := #[] }, { accessFlags := 8, nameIndex := 344, descriptorIndex := 339, attributes := #[] }, { accessFlags := 8, nameIndex := 338, descriptorIndex := 339, attributes := #[] }, { accessFlags := 4120, nameIndex := 245, descriptorIndex := 246, attributes := #[] }])
  fields := #[{ name := "E", type := .double, accessFlags := 25, slot := 0, constantValue := 0 }, { name := "PI", type := .double, accessFlags := 25, slot := 1, constantValue := 0 }, { name := "TAU", type := .double, accessFlags := 25, slot := 2, constantValue := 0 }, { name := "DEGREES_TO_RADIANS", type := .double, accessFlags := 26, slot := 3, constantValue := 0 }, { name := "RADIANS_TO_DEGREES", type := .double, accessFlags := 26, slot := 4, constantValue := 0 }, { name := "negativeZeroFloatBits", type := .long, accessFlags := 26, slot := 5, constantValue := 0 }, { name := "negativeZeroDoubleBits", type := .long, accessFlags := 26, slot := 6, constantValue := 0 }, { name := "twoToTheDoubleScaleUp", type := .double, accessFlags := 8, slot := 7, constantValue := 0 }, { name := "twoToTheDoubleScaleDown", type := .double, accessFlags := 8, slot := 8, constantValue := 0 }, { name := "$assertionsDisabled", type := .boolean, accessFlags := 4120, slot := 9, constantValue := 0 }]
  methods := #[k3m0, k3m1]
  instanceTypes := #[]
  staticTypes := #[.double, .double, .double, .double, .double, .long, .long, .double, .double, .boolean]
  resolved := Array.replicate 460 none
  statics := none }

def pool4 : Array CpInfo := pool [(1, u "java/lang/Cloneable"), (0, .class_ 1), (0, u "java/lang/Object"), (0, .class_ 3)] 3

/-- java/lang/Cloneable -/
def k4 : Class := { plain "java/lang/Cloneable" (some 0) with
  accessFlags := 1537
  interfaces := #[]
  cf := some (fileOf pool4 2 #[] #[] 1537 4 #[] #[])
  fields := #[]
  methods := #[]
  instanceTypes := #[]
  staticTypes := #[]
  resolved := Array.replicate 8 none
  statics := none }

def pool5 : Array CpInfo := pool [(1, u "java/io/Serializable"), (0, .class_ 1), (0, u "java/lang/Object"), (0, .class_ 3)] 3

/-- java/io/Serializable -/
def k5 : Class := { plain "java/io/Serializable" (some 0) with
  accessFlags := 1537
  interfaces := #[]
  cf := some (fileOf pool5 2 #[] #[] 1537 4 #[] #[])
  fields := #[]
  methods := #[]
  instanceTypes := #[]
  staticTypes := #[]
  resolved := Array.replicate 8 none
  statics := none }

/-- the primitive byte -/
def k6 : Class := { plain "byte" none with kind := .primitive 'B', accessFlags := 0x411 }
/-- [B -/
def k7 : Class := { plain "[B" (some 0) with kind := .array 6 .byte, interfaces := #[4, 5], accessFlags := 1041 }

/-- the primitive int -/
def k8 : Class := { plain "int" none with kind := .primitive 'I', accessFlags := 0x411 }
/-- [I -/
def k9 : Class := { plain "[I" (some 0) with kind := .array 8 .int, interfaces := #[4, 5], accessFlags := 1041 }

def heap : Heap := #[]
def classes : Array Class := #[k0, k1, k2, k3, k4, k5, k6, k7, k8, k9]
def interned : List (Array UInt16 × Addr) := []
def slotsUsed : Nat := 0
def theMethod : MethodId := ⟨1, 1⟩
def args0 : Array Value := #[.long 5, .int 70, .int 3, .int 1]
def aboutOver (below : List Frame) : State where
  vm := { classes := classes, interned := interned.toArray }
  heap := heap
  slotsUsed := slotsUsed
  threads := #[{ frames := .invoking theMethod args0 :: below }]
def below0 : List Frame := [.native { method := ⟨0, 0⟩, args := #[] }]
def about1 : State := aboutOver below0
def p0 : Program := .bare "" "" ""
def e0 : Env := launch0.env 0 0 0
theorem w_frames : about1.frames = Frame.invoking theMethod args0 :: below0 := rfl
set_option maxRecDepth 65536 in
theorem w_args : argsFit about1.vm theMethod args0 = true := by decide +kernel
set_option maxRecDepth 65536 in
theorem w_heap : heapFits about1 = true := by decide +kernel
set_option maxRecDepth 65536 in
theorem w_runnable : about1.curStatus? = some .runnable := by decide +kernel
set_option maxRecDepth 65536 in
theorem w_alone : about1.alone = true := by decide +kernel
set_option maxRecDepth 65536 in
theorem w_named : about1.methodNamed? x = some theMethod := by decide +kernel
set_option maxRecDepth 65536 in
theorem w_hears : about1.hears theMethod below0 = true := by decide +kernel
set_option maxRecDepth 65536 in
theorem w_ripe : about1.ripe theMethod args0 below0 = true := by decide +kernel
theorem w_running : about1.status = .running := rfl
set_option maxRecDepth 65536 in
theorem w_room : about1.hasRoom e0.platform room_1 = true :=
  launch0.hasRoom_least _ room_1 (by decide +kernel) (by decide +kernel) (by decide +kernel) (by decide +kernel) (by decide +kernel) (by decide +kernel)
theorem allAtoms_all (ts : List Jvm.Cond) (a : Array Jvm.Value) (st : Jvm.State) : (allAtoms ts).before a st = ts.all (fun c => c.before a st) := by
  induction ts with
  | nil => rfl
  | cons c t ih =>
    show (Jvm.Cond.and c (allAtoms t)).before a st = _
    rw [Jvm.Cond.before_and, ih, List.all_cons]
def words1 : List Jvm.Cond := Jvm.Cond.code x code maxLocals ret :: tables_1
/-- a 'code' word, met by the world's own term for the bytes: nothing is compared byte by byte -/
theorem code_word {y : MethodName} {bytes : ByteArray} {mx : Nat} {rt : Option FieldType} {a : Array Value} {s : State} {m : MethodId} {meth : Method} {c : Code} (h1 : s.methodNamed? y = some m) (h2 : s.vm.method? m = some meth) (h3 : meth.code = some c) (h4 : c.code = bytes)
    (h5 : (c.maxLocals == mx && c.exceptionTable.isEmpty && decide (c.maxStack ≤ mostOperands) && decide (meth.sig.returnType = rt) && !meth.locks && decide (parseMethodDescriptor y.desc = some meth.sig)) = true) : (Jvm.Cond.code y bytes mx rt).before a s = true := by
  simp only [Bool.and_eq_true, beq_iff_eq, Bool.not_eq_true', decide_eq_true_eq] at h5
  obtain ⟨⟨⟨⟨⟨g1, g2⟩, g3⟩, g4⟩, g5⟩, g6⟩ := h5
  simp [Cond.before, Cond.holds, Cond.value, h1, h2, h3, h4, g1, g2, g3, g4, g5, g6]
def isCode : Jvm.Cond → Bool
  | .code _ _ _ _ => true
  | _ => false
theorem all_split {L : List Jvm.Cond} {P : Jvm.Cond → Bool} (h1 : L.all (fun c => isCode c || P c) = true) (h2 : ∀ c ∈ L.filter isCode, P c = true) : L.all P = true := by
  refine List.all_eq_true.mpr fun c hc => ?_
  have h := List.all_eq_true.mp h1 c hc
  rcases Bool.eq_false_or_eq_true (isCode c) with hi | hi
  · exact h2 c (List.mem_filter.mpr ⟨hc, hi⟩)
  · simpa [hi] using h
set_option maxRecDepth 65536 in
theorem w_c0 : (Jvm.Cond.code x code maxLocals ret).before args0 about1 = true := code_word (m := ⟨1, 1⟩) (meth := k1m1) (c := k1c1) (by decide +kernel) rfl rfl rfl (by decide +kernel)
set_option maxRecDepth 65536 in
theorem w_c1 : (Jvm.Cond.code ({ cls := "com/example/spanfacet/spanfacet/StatsBucket", name := "startOf", desc := "(J)J" } : Jvm.MethodName) prog_17_method_2_code (2 : Nat) (Option.some Jvm.ClassFile.FieldType.long)).before args0 about1 = true := code_word (m := ⟨2, 0⟩) (meth := k2m0) (c := k2c0) (by decide +kernel) rfl rfl rfl (by decide +kernel)
set_option maxRecDepth 65536 in
theorem w_c2 : (Jvm.Cond.code ({ cls := "java/lang/Math", name := "floorDiv", desc := "(JJ)J" } : Jvm.MethodName) jdk_29_method_49_code (6 : Nat) (Option.some Jvm.ClassFile.FieldType.long)).before args0 about1 = true := code_word (m := ⟨3, 1⟩) (meth := k3m1) (c := k3c1) (by decide +kernel) rfl rfl rfl (by decide +kernel)
def codes1 : List Jvm.Cond := [Jvm.Cond.code x code maxLocals ret, Jvm.Cond.code ({ cls := "com/example/spanfacet/spanfacet/StatsBucket", name := "startOf", desc := "(J)J" } : Jvm.MethodName) prog_17_method_2_code (2 : Nat) (Option.some Jvm.ClassFile.FieldType.long), Jvm.Cond.code ({ cls := "java/lang/Math", name := "floorDiv", desc := "(JJ)J" } : Jvm.MethodName) jdk_29_method_49_code (6 : Nat) (Option.some Jvm.ClassFile.FieldType.long)]
set_option maxRecDepth 65536 in
theorem codes_eq : words1.filter isCode = codes1 := rfl
theorem w_codes : ∀ c ∈ words1.filter isCode, c.before args0 about1 = true := by
  rw [codes_eq]
  intro c hc
  simp only [codes1, List.mem_cons, List.not_mem_nil, or_false] at hc
  rcases hc with rfl | rfl | rfl
  · exact w_c0
  · exact w_c1
  · exact w_c2
set_option maxRecDepth 65536 in
theorem w_t1 : words1.all (fun c => isCode c || c.before args0 about1) = true := by decide +kernel
theorem w_tables : (allAtoms (Jvm.Cond.code x code maxLocals ret :: tables_1)).before args0 about1 = true := by
  rw [allAtoms_all]
  show words1.all (fun c => c.before args0 about1) = true
  refine all_split ?_ w_codes
  rw [w_t1]
set_option maxRecDepth 65536 in
theorem w_case : (Jvm.Cond.and given_1 narrow_1).before args0 about1 = true := by decide +kernel
theorem w_applies : (headSpec (Jvm.Cond.code x code maxLocals ret :: tables_1) room_1).applies x e0.platform about1 = true :=
  (Spec.applies_iff w_frames).mpr ⟨w_running, w_runnable, w_alone, w_named, w_hears, w_ripe, w_room, w_tables⟩
theorem atStart : AtStart classFile x code maxLocals ret World_1 tables_1 room_1 Calls_1 rest_1 Pre_1 launch0 p0 e0 about1 theMethod args0 below0 :=
  ⟨lists_1, trivial, launch0.admits_env _ _ _, launch0.least_env, fairChoices_fair.cas, fairChoices_fair.clock, w_frames, w_args, w_heap, w_applies, trivial, trivial, w_case⟩
end start1
theorem witness_1 : WitnessClaimed_1 := ⟨start1.p0, start1.e0, start1.about1, start1.theMethod, start1.args0, start1.below0, start1.atStart⟩
end Jvm.Pilot.@@N@@
