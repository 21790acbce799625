import JvmDerived
import JvmDerived.Pilot.@@N@@Statement
import JvmDerived.Pilot.@@N@@Code
set_option linter.unusedVariables false
set_option linter.unusedSimpArgs false
namespace Jvm.RoadKit
open Sem ClassFile Op Lib Jvm.Stand Jvm.Free Jvm.LawKit
section New
variable {p : Program} {l : Launch} {e : Env} {R : Room} {s : State} {m : MethodId} {args : Array Value} {below : List Frame} {meth : Method} {c : Code} {T : State} {locs : List Loc} {cells slots : Nat}
theorem retI (X : Stand p l e R s m args below meth c T locs cells slots) (hx : p.tables.exec = Jvm.exec) {pc : Nat} {Ls : Array Slot} {z : Int32} {rest : List Value} (hret : meth.sig.returnType = some .int) (hd : decode c.code pc = .ok (.ireturn, 1)) {fs : List Frame}
    (hl : ∀ (f : JFrame) (acts : List Action), f.method = m → f.locked = none → f.entered = [] → (doReturn e (T.setTop f) acts (some (.int z))).1 = T.setFrames fs) : Steps p.tables e below (T.setTop (mkF m pc Ls (.int z :: rest))) (T.setFrames fs) := by
  have hm' : T.vm.method? m = some meth := X.method'
  have hn : narrow .int (.int z) = .int z := rfl
  show Steps p.tables e below (T.setTop { method := m, pc := pc, locals := Ls, stack := _ :: rest, locked := none }) _
  jvm_step X.here [X.here.top, hx, hd, hm', hret, hn]
  first | (intro acts; rw [hl _ acts rfl rfl rfl]) | rw [hl _ _ rfl rfl rfl]
  exact Steps.refl _
end New
end Jvm.RoadKit
namespace Jvm.Pilot.@@N@@
open Jvm Jvm.ClassFile Sem Op Lib Jvm.Free Jvm.Stand Jvm.LawKit Jvm.RoadKit Bundle Jvm.Pilot.@@N@@.Jvm.D
theorem own_irem (x y : Int32) : x - (x / y) * y = x % y := by
  apply Int32.toInt_inj.mp
  have a := (x % y).toInt_lt; have b := (x % y).le_toInt
  rw [Int32.toInt_mod] at a b ⊢
  rw [Int32.toInt_sub, Int32.toInt_mul, Int32.toInt_div, Int.bmod_mul_bmod, Int.sub_bmod_bmod, Int.mul_comm, ← Int.tmod_def]
  exact Int.bmod_eq_of_le (by omega) (by omega)
theorem own_ns_exa {Z : State} {h : Heap} {a : Addr} {C : String} (F : Exa Z h a C) : ∀ c : Cell, h[a]? = some c → c.vm.isStatics = false := fun c hc => by
  obtain ⟨cell, k, h1, -, -, h4, -⟩ := F
  cases h1.symm.trans hc; exact h4
theorem own_sta_keep {Z : State} {h h' : Heap} {C n d : String} {v : Value} {ws : List Addr} (F : Sta Z h C n d v) (K : Keep h h' ws) (q : ∀ x ∈ ws, ∀ c : Cell, h[x]? = some c → c.vm.isStatics = false) : Sta Z h' C n d v := by
  obtain ⟨cf, i, k, f, st, cell, h1, h2, h3, h4, h5, h6, h7⟩ := F
  refine ⟨cf, i, k, f, st, cell, h1, h2, h3, h4, K.2.1 st cell h5 (fun hm => ?_), h6, h7⟩
  rw [q st hm cell h5] at h6; cases h6
def own_h (a b n t : Int32) : Int32 := if ((2 : Int64) * a.toInt64) < (n - t).toInt64 then 1 else if ((2 : Int64) * b.toInt64) < (n - t).toInt64 then 1 else 0
theorem own_nb (p : Int32) : 0 ≤ (p &&& (1073741823 : Int32)).toInt ∧ (p &&& (1073741823 : Int32)).toInt < 1073741824 := by
  have h1 := c_mask p 1073741823 30 (by decide +kernel) (by decide +kernel)
  have v : ((2 ^ 30 : Nat) : Int) = 1073741824 := by decide +kernel
  rw [h1, v]; omega
theorem own_y {n : Int32} (hn : 0 ≤ n.toInt ∧ n.toInt < 1073741824) : (n.toInt64 + (1 : Int64)).toInt = n.toInt + 1 := by
  have h := c_ladd n.toInt64 1
  have r := rng64 (n.toInt64 + 1)
  have z1 : (1 : Int64).toInt = 1 := by decide +kernel
  rw [c_i2l, z1] at h
  omega
theorem own_yne {n : Int32} (hn : 0 ≤ n.toInt ∧ n.toInt < 1073741824) : (n.toInt64 + (1 : Int64)) ≠ 0 := fun q => by
  have h := own_y hn
  rw [q] at h
  have z0 : (0 : Int64).toInt = 0 := by decide +kernel
  omega
theorem own_tb {n : Int32} (b : Int32) (hn : 0 ≤ n.toInt ∧ n.toInt < 1073741824) :
    0 ≤ (((b.toInt64 &&& (2147483647 : Int64)) - ((b.toInt64 &&& (2147483647 : Int64)) / (n.toInt64 + (1 : Int64))) * (n.toInt64 + (1 : Int64))).toInt32).toInt ∧ (((b.toInt64 &&& (2147483647 : Int64)) - ((b.toInt64 &&& (2147483647 : Int64)) / (n.toInt64 + (1 : Int64))) * (n.toInt64 + (1 : Int64))).toInt32).toInt ≤ n.toInt := by
  have hy := own_y hn
  have h1 := c_maskL b.toInt64 2147483647 31 (by decide +kernel) (by decide +kernel)
  have v : ((2 ^ 31 : Nat) : Int) = 2147483648 := by decide +kernel
  rw [v] at h1
  have hx : 0 ≤ (b.toInt64 &&& (2147483647 : Int64)).toInt := by rw [h1]; omega
  generalize (b.toInt64 &&& (2147483647 : Int64)) = x at *
  generalize (n.toInt64 + (1 : Int64)) = y at *
  rw [lrem_mod]
  have h2 : (x % y).toInt = x.toInt % y.toInt := by rw [Int64.toInt_mod, Int.tmod_eq_emod_of_nonneg hx]
  have h3 := Int.emod_nonneg x.toInt (show y.toInt ≠ 0 by omega)
  have h4 := Int.emod_lt_of_pos x.toInt (show 0 < y.toInt by omega)
  have h5 := c_l2i (x % y)
  have h6 := rng32 (x % y).toInt32
  omega
theorem own_facts {n t o z : Int32} (hn : 0 ≤ n.toInt ∧ n.toInt < 1073741824) (ht : 0 ≤ t.toInt ∧ t.toInt ≤ n.toInt) (ho : 0 ≤ o.toInt ∧ o.toInt ≤ n.toInt) (hz : n - o = z) :
    (((2 : Int64) * o.toInt64) < (n - t).toInt64 ↔ 2 * o.toInt < n.toInt - t.toInt) ∧ (((2 : Int64) * z.toInt64) < (n - t).toInt64 ↔ 2 * (n.toInt - o.toInt) < n.toInt - t.toInt) ∧
    (((2 : Int64) * o.toInt64) < (n.toInt64 - t.toInt64) ↔ 2 * o.toInt < n.toInt - t.toInt) ∧ ((n.toInt64 + t.toInt64) < ((2 : Int64) * o.toInt64) ↔ n.toInt + t.toInt < 2 * o.toInt) := by
  have z2 : (2 : Int64).toInt = 2 := by decide +kernel
  have a1 := c_isub n t; have a2 := rng32 (n - t)
  have a3 := c_isub n o; have a4 := rng32 (n - o)
  rw [hz] at a3 a4
  have b1 := c_lmul 2 o.toInt64; have b2 := rng64 ((2 : Int64) * o.toInt64)
  have b3 := c_lmul 2 z.toInt64; have b4 := rng64 ((2 : Int64) * z.toInt64)
  have b5 := c_lsub n.toInt64 t.toInt64; have b6 := rng64 (n.toInt64 - t.toInt64)
  have b7 := c_ladd n.toInt64 t.toInt64; have b8 := rng64 (n.toInt64 + t.toInt64)
  have i1 := c_i2l (n - t)
  simp only [c_i2l, z2] at b1 b3 b5 b7
  simp only [Int64.lt_iff_toInt_lt, i1]
  refine ⟨?_, ?_, ?_, ?_⟩ <;> omega
theorem own_r1 {n t o z : Int32} (hn : 0 ≤ n.toInt ∧ n.toInt < 1073741824) (ht : 0 ≤ t.toInt ∧ t.toInt ≤ n.toInt) (ho : 0 ≤ o.toInt ∧ o.toInt ≤ n.toInt) (hz : n - o = z) (h : ((2 : Int64) * o.toInt64) < (n.toInt64 - t.toInt64)) : own_h o z n t = 1 ∧ own_h z o n t = 1 := by
  obtain ⟨f1, f2, f3, f4⟩ := own_facts hn ht ho hz
  unfold own_h
  simp only [f1, f2]
  rw [f3] at h
  exact ⟨by simp [h], by simp [h]⟩
theorem own_r2 {n t o z : Int32} (hn : 0 ≤ n.toInt ∧ n.toInt < 1073741824) (ht : 0 ≤ t.toInt ∧ t.toInt ≤ n.toInt) (ho : 0 ≤ o.toInt ∧ o.toInt ≤ n.toInt) (hz : n - o = z) (h : (n.toInt64 + t.toInt64) < ((2 : Int64) * o.toInt64)) : own_h o z n t = 1 ∧ own_h z o n t = 1 := by
  obtain ⟨f1, f2, f3, f4⟩ := own_facts hn ht ho hz
  unfold own_h
  simp only [f1, f2]
  rw [f4] at h
  have q : 2 * (n.toInt - o.toInt) < n.toInt - t.toInt := by omega
  exact ⟨by simp [q], by simp [q]⟩
theorem own_r3 {n t o z : Int32} (hn : 0 ≤ n.toInt ∧ n.toInt < 1073741824) (ht : 0 ≤ t.toInt ∧ t.toInt ≤ n.toInt) (ho : 0 ≤ o.toInt ∧ o.toInt ≤ n.toInt) (hz : n - o = z) (h : ¬ ((2 : Int64) * o.toInt64) < (n.toInt64 - t.toInt64)) (h' : ¬ (n.toInt64 + t.toInt64) < ((2 : Int64) * o.toInt64)) : own_h o z n t = 0 ∧ own_h z o n t = 0 := by
  obtain ⟨f1, f2, f3, f4⟩ := own_facts hn ht ho hz
  unfold own_h
  simp only [f1, f2]
  rw [f3] at h
  rw [f4] at h'
  have q : ¬ 2 * (n.toInt - o.toInt) < n.toInt - t.toInt := by omega
  exact ⟨by simp [h, q], by simp [h, q]⟩
theorem dho_0 : decode prog_7_method_2_code 0 = .ok (.ldc2_w 7, 3) := by decide +kernel
theorem dho_3 : decode prog_7_method_2_code 3 = .ok (.iload_n 0, 1) := by decide +kernel
theorem dho_4 : decode prog_7_method_2_code 4 = .ok (.i2l, 1) := by decide +kernel
theorem dho_5 : decode prog_7_method_2_code 5 = .ok (.lmul, 1) := by decide +kernel
theorem dho_6 : decode prog_7_method_2_code 6 = .ok (.iload_n 2, 1) := by decide +kernel
theorem dho_7 : decode prog_7_method_2_code 7 = .ok (.iload_n 3, 1) := by decide +kernel
theorem dho_8 : decode prog_7_method_2_code 8 = .ok (.isub, 1) := by decide +kernel
theorem dho_9 : decode prog_7_method_2_code 9 = .ok (.i2l, 1) := by decide +kernel
theorem dho_10 : decode prog_7_method_2_code 10 = .ok (.lcmp, 1) := by decide +kernel
theorem dho_11 : decode prog_7_method_2_code 11 = .ok (.ifCond .lt 17, 3) := by decide +kernel
theorem dho_14 : decode prog_7_method_2_code 14 = .ok (.ldc2_w 7, 3) := by decide +kernel
theorem dho_17 : decode prog_7_method_2_code 17 = .ok (.iload_n 1, 1) := by decide +kernel
theorem dho_18 : decode prog_7_method_2_code 18 = .ok (.i2l, 1) := by decide +kernel
theorem dho_19 : decode prog_7_method_2_code 19 = .ok (.lmul, 1) := by decide +kernel
theorem dho_20 : decode prog_7_method_2_code 20 = .ok (.iload_n 2, 1) := by decide +kernel
theorem dho_21 : decode prog_7_method_2_code 21 = .ok (.iload_n 3, 1) := by decide +kernel
theorem dho_22 : decode prog_7_method_2_code 22 = .ok (.isub, 1) := by decide +kernel
theorem dho_23 : decode prog_7_method_2_code 23 = .ok (.i2l, 1) := by decide +kernel
theorem dho_24 : decode prog_7_method_2_code 24 = .ok (.lcmp, 1) := by decide +kernel
theorem dho_25 : decode prog_7_method_2_code 25 = .ok (.ifCond .ge 7, 3) := by decide +kernel
theorem dho_28 : decode prog_7_method_2_code 28 = .ok (.iconst 1, 1) := by decide +kernel
theorem dho_29 : decode prog_7_method_2_code 29 = .ok (.goto 4, 3) := by decide +kernel
theorem dho_32 : decode prog_7_method_2_code 32 = .ok (.iconst 0, 1) := by decide +kernel
theorem dho_33 : decode prog_7_method_2_code 33 = .ok (.ireturn, 1) := by decide +kernel
theorem pn_ho : plainName "com/example/aircord/aircord/check/Condition" = true := by first | (simp [plainName, overriddenIn]; done) | decide +kernel
theorem ef_ho (m : MethodId) (p1 : Int32) (p2 : Int32) (p3 : Int32) (p4 : Int32) : entryFrame m #[(.int p1), (.int p2), (.int p3), (.int p4)] 4 = (mkF m 0 #[.val (.int p1), .val (.int p2), .val (.int p3), .val (.int p4)] []) := by first | (simp [entryFrame, mkF, argsToLocals, Value.category]; done) | rfl
def Q_ho (Z : State) (p1 p2 p3 p4 : Int32) (h0 : Heap) (n0 : Nat) (v : Option Value) (h : Heap) (L : List Loc) : Prop := v = some (.int (own_h p1 p2 p3 p4)) ∧ Fr n0 L ∧ h = h0
set_option maxRecDepth 65536 in
set_option maxHeartbeats 40000000 in
theorem rm_ho (l : Launch) (Z : State) (a0 : Array Value) (hw : ∀ d ∈ tables_1, d.before a0 Z = true) (ws : List Jvm.Cond) (p1 p2 p3 p4 : Int32) (h0 : Heap) (n0 : Nat) (Z0 : n0 ≤ h0.size)  :
    MetFree l (⟨"com/example/aircord/aircord/check/Condition", "holds", "(IIII)Z"⟩ : MethodName) (head1 (Jvm.Cond.code (⟨"com/example/aircord/aircord/check/Condition", "holds", "(IIII)Z"⟩ : MethodName) prog_7_method_2_code 4 (some .boolean) :: ws) ({ frames := 0, cells := 0, slots := 0, locals := 0 } : Room)) (fun a U => a = #[(.int p1), (.int p2), (.int p3), (.int p4)] ∧ Z.Warmed39 U.vm ∧ U.heap = h0) (fun _ _ _ _ _ => True) (fun _ U o U' => ∃ v L, o = .returned v ∧ Q_ho Z p1 p2 p3 p4 h0 n0 v U'.heap L ∧ FrameEnd U o U' L ({ frames := 0, cells := 0, slots := 0, locals := 0 } : Room).cells ({ frames := 0, cells := 0, slots := 0, locals := 0 } : Room).slots) := by
  refine MetFree.of_bodySF (plainFor_of_name pn_ho) hisR ?_
  intro p e s m args below meth c s₁ Bd hml0 hP hK
  obtain ⟨rfl, hZ, hh⟩ := hP
  have hx := Bd.exec
  have hby := Bd.bytes
  have hml : c.maxLocals = 4 := hml0
  have hown : s.vm.findClass "com/example/aircord/aircord/check/Condition" = some m.cls := findClass_of_methodNamed Bd.named
  have hnm := (name_of_methodNamed Bd.named Bd.method).1
  have X0 : Stand p l e ({ frames := 0, cells := 0, slots := 0, locals := 0 } : Room) s m #[(.int p1), (.int p2), (.int p3), (.int p4)] below meth c s₁ [] 0 0 := Stand.of_body Bd
  have e0 : s₁.heap = h0 := by rw [← hh, Bd.state]; rfl
  have N0 := Fr.nil n0
  have pre0 : ∀ t, Steps p.tables e below (s₁.setTop (mkF m 0 #[.val (.int p1), .val (.int p2), .val (.int p3), .val (.int p4)] [])) t → Steps p.tables e below (s₁.setTop (entryFrame m #[(.int p1), (.int p2), (.int p3), (.int p4)] 4)) t := fun t k => castTop (ef_ho m p1 p2 p3 p4) k
  have pre2 : ∀ t, Steps p.tables e below (s₁.setTop (mkF m 11 #[.val (.int p1), .val (.int p2), .val (.int p3), .val (.int p4)] [(.int (XT.cmpL ((2 : Int64) * (p1.toInt64)) ((p3 - p4).toInt64)))])) t → Steps p.tables e below (s₁.setTop (entryFrame m #[(.int p1), (.int p2), (.int p3), (.int p4)] 4)) t := fun t k => pre0 t (by
    show Steps p.tables e below (s₁.setTop (mkF m 0 #[.val (.int p1), .val (.int p2), .val (.int p3), .val (.int p4)] [])) _
    refine X0.ldc2J hx hown (mvT hZ (hw _ (List.mem_of_getElem? (i := 6) rfl))) rfl (hb hby dho_0) ?_
    show Steps p.tables e below (s₁.setTop (mkF m 3 #[.val (.int p1), .val (.int p2), .val (.int p3), .val (.int p4)] [(.long (2 : Int64))])) _
    refine XS.iloadN X0.here hx rfl (hb hby dho_3) rfl ?_
    show Steps p.tables e below (s₁.setTop (mkF m 4 #[.val (.int p1), .val (.int p2), .val (.int p3), .val (.int p4)] [(.int p1), (.long (2 : Int64))])) _
    refine XT.i2l X0.here hx rfl (hb hby dho_4) rfl ?_
    show Steps p.tables e below (s₁.setTop (mkF m 5 #[.val (.int p1), .val (.int p2), .val (.int p3), .val (.int p4)] [(.long (p1.toInt64)), (.long (2 : Int64))])) _
    refine XT.lmul X0.here hx rfl (hb hby dho_5) rfl ?_
    show Steps p.tables e below (s₁.setTop (mkF m 6 #[.val (.int p1), .val (.int p2), .val (.int p3), .val (.int p4)] [(.long ((2 : Int64) * (p1.toInt64)))])) _
    refine XS.iloadN X0.here hx rfl (hb hby dho_6) rfl ?_
    show Steps p.tables e below (s₁.setTop (mkF m 7 #[.val (.int p1), .val (.int p2), .val (.int p3), .val (.int p4)] [(.int p3), (.long ((2 : Int64) * (p1.toInt64)))])) _
    refine XS.iloadN X0.here hx rfl (hb hby dho_7) rfl ?_
    show Steps p.tables e below (s₁.setTop (mkF m 8 #[.val (.int p1), .val (.int p2), .val (.int p3), .val (.int p4)] [(.int p4), (.int p3), (.long ((2 : Int64) * (p1.toInt64)))])) _
    refine XS.isub X0.here hx rfl (hb hby dho_8) rfl ?_
    show Steps p.tables e below (s₁.setTop (mkF m 9 #[.val (.int p1), .val (.int p2), .val (.int p3), .val (.int p4)] [(.int (p3 - p4)), (.long ((2 : Int64) * (p1.toInt64)))])) _
    refine XT.i2l X0.here hx rfl (hb hby dho_9) rfl ?_
    show Steps p.tables e below (s₁.setTop (mkF m 10 #[.val (.int p1), .val (.int p2), .val (.int p3), .val (.int p4)] [(.long ((p3 - p4).toInt64)), (.long ((2 : Int64) * (p1.toInt64)))])) _
    refine XT.lcmp X0.here hx rfl (hb hby dho_10) rfl ?_
    show Steps p.tables e below (s₁.setTop (mkF m 11 #[.val (.int p1), .val (.int p2), .val (.int p3), .val (.int p4)] [(.int (XT.cmpL ((2 : Int64) * (p1.toInt64)) ((p3 - p4).toInt64)))])) _
    exact k)
  by_cases h1 : ((2 : Int64) * (p1.toInt64)) < ((p3 - p4).toInt64)
  · skip
    have hf : own_h p1 p2 p3 p4 = 1 := if_pos h1
    have pre3 : ∀ t, Steps p.tables e below (s₁.setTop (mkF m 33 #[.val (.int p1), .val (.int p2), .val (.int p3), .val (.int p4)] [(.int (1 : Int32))])) t → Steps p.tables e below (s₁.setTop (entryFrame m #[(.int p1), (.int p2), (.int p3), (.int p4)] 4)) t := fun t k => pre2 t (by
      show Steps p.tables e below (s₁.setTop (mkF m 11 #[.val (.int p1), .val (.int p2), .val (.int p3), .val (.int p4)] [(.int (XT.cmpL ((2 : Int64) * (p1.toInt64)) ((p3 - p4).toInt64)))])) _
      refine XS.ifYes X0.here hx rfl (pc0 := 11) (pc' := 28) rfl (hb hby dho_11) rfl (XT.ll_lt_t h1) (by decide) (by decide) ?_
      show Steps p.tables e below (s₁.setTop (mkF m 28 #[.val (.int p1), .val (.int p2), .val (.int p3), .val (.int p4)] [])) _
      refine XS.iconst X0.here hx rfl (hb hby dho_28) ?_
      show Steps p.tables e below (s₁.setTop (mkF m 29 #[.val (.int p1), .val (.int p2), .val (.int p3), .val (.int p4)] [(.int (1 : Int32))])) _
      refine XS.goto X0.here hx rfl (pc0 := 29) (pc' := 33) rfl (hb hby dho_29) (by decide) (by decide) ?_
      show Steps p.tables e below (s₁.setTop (mkF m 33 #[.val (.int p1), .val (.int p2), .val (.int p3), .val (.int p4)] [(.int (1 : Int32))])) _
      exact k)
    obtain ⟨fs, hr, hrun, hended, hW, hsame⟩ := X0.leave (v := some (.int (1 : Int32))) (fun h => by rw [Bd.returns] at h; cases h)
    refine ⟨_, _, pre3 _ ?_, hrun, hended, _, _, rfl, ?_, ⟨_, rfl⟩, hW, hsame.mono (by decide) (by decide)⟩
    · exact retN X0 hx (t := .boolean) Bd.returns (by simp) (hb hby dho_33) hr
    · show Q_ho Z p1 p2 p3 p4 h0 n0 _ s₁.heap _
      unfold Q_ho; rw [hf]
      rw [e0]
      exact ⟨rfl, N0, rfl⟩
  · skip
    have pre3 : ∀ t, Steps p.tables e below (s₁.setTop (mkF m 25 #[.val (.int p1), .val (.int p2), .val (.int p3), .val (.int p4)] [(.int (XT.cmpL ((2 : Int64) * (p2.toInt64)) ((p3 - p4).toInt64)))])) t → Steps p.tables e below (s₁.setTop (entryFrame m #[(.int p1), (.int p2), (.int p3), (.int p4)] 4)) t := fun t k => pre2 t (by
      show Steps p.tables e below (s₁.setTop (mkF m 11 #[.val (.int p1), .val (.int p2), .val (.int p3), .val (.int p4)] [(.int (XT.cmpL ((2 : Int64) * (p1.toInt64)) ((p3 - p4).toInt64)))])) _
      refine XS.ifNo X0.here hx rfl (hb hby dho_11) rfl (XT.ll_lt_f h1) ?_
      show Steps p.tables e below (s₁.setTop (mkF m 14 #[.val (.int p1), .val (.int p2), .val (.int p3), .val (.int p4)] [])) _
      refine X0.ldc2J hx hown (mvT hZ (hw _ (List.mem_of_getElem? (i := 6) rfl))) rfl (hb hby dho_14) ?_
      show Steps p.tables e below (s₁.setTop (mkF m 17 #[.val (.int p1), .val (.int p2), .val (.int p3), .val (.int p4)] [(.long (2 : Int64))])) _
      refine XS.iloadN X0.here hx rfl (hb hby dho_17) rfl ?_
      show Steps p.tables e below (s₁.setTop (mkF m 18 #[.val (.int p1), .val (.int p2), .val (.int p3), .val (.int p4)] [(.int p2), (.long (2 : Int64))])) _
      refine XT.i2l X0.here hx rfl (hb hby dho_18) rfl ?_
      show Steps p.tables e below (s₁.setTop (mkF m 19 #[.val (.int p1), .val (.int p2), .val (.int p3), .val (.int p4)] [(.long (p2.toInt64)), (.long (2 : Int64))])) _
      refine XT.lmul X0.here hx rfl (hb hby dho_19) rfl ?_
      show Steps p.tables e below (s₁.setTop (mkF m 20 #[.val (.int p1), .val (.int p2), .val (.int p3), .val (.int p4)] [(.long ((2 : Int64) * (p2.toInt64)))])) _
      refine XS.iloadN X0.here hx rfl (hb hby dho_20) rfl ?_
      show Steps p.tables e below (s₁.setTop (mkF m 21 #[.val (.int p1), .val (.int p2), .val (.int p3), .val (.int p4)] [(.int p3), (.long ((2 : Int64) * (p2.toInt64)))])) _
      refine XS.iloadN X0.here hx rfl (hb hby dho_21) rfl ?_
      show Steps p.tables e below (s₁.setTop (mkF m 22 #[.val (.int p1), .val (.int p2), .val (.int p3), .val (.int p4)] [(.int p4), (.int p3), (.long ((2 : Int64) * (p2.toInt64)))])) _
      refine XS.isub X0.here hx rfl (hb hby dho_22) rfl ?_
      show Steps p.tables e below (s₁.setTop (mkF m 23 #[.val (.int p1), .val (.int p2), .val (.int p3), .val (.int p4)] [(.int (p3 - p4)), (.long ((2 : Int64) * (p2.toInt64)))])) _
      refine XT.i2l X0.here hx rfl (hb hby dho_23) rfl ?_
      show Steps p.tables e below (s₁.setTop (mkF m 24 #[.val (.int p1), .val (.int p2), .val (.int p3), .val (.int p4)] [(.long ((p3 - p4).toInt64)), (.long ((2 : Int64) * (p2.toInt64)))])) _
      refine XT.lcmp X0.here hx rfl (hb hby dho_24) rfl ?_
      show Steps p.tables e below (s₁.setTop (mkF m 25 #[.val (.int p1), .val (.int p2), .val (.int p3), .val (.int p4)] [(.int (XT.cmpL ((2 : Int64) * (p2.toInt64)) ((p3 - p4).toInt64)))])) _
      exact k)
    by_cases h2 : ((2 : Int64) * (p2.toInt64)) < ((p3 - p4).toInt64)
    · skip
      have hf : own_h p1 p2 p3 p4 = 1 := by unfold own_h; rw [if_neg h1, if_pos h2]
      have pre4 : ∀ t, Steps p.tables e below (s₁.setTop (mkF m 33 #[.val (.int p1), .val (.int p2), .val (.int p3), .val (.int p4)] [(.int (1 : Int32))])) t → Steps p.tables e below (s₁.setTop (entryFrame m #[(.int p1), (.int p2), (.int p3), (.int p4)] 4)) t := fun t k => pre3 t (by
        show Steps p.tables e below (s₁.setTop (mkF m 25 #[.val (.int p1), .val (.int p2), .val (.int p3), .val (.int p4)] [(.int (XT.cmpL ((2 : Int64) * (p2.toInt64)) ((p3 - p4).toInt64)))])) _
        refine XS.ifNo X0.here hx rfl (hb hby dho_25) rfl (XT.ll_ge_f h2) ?_
        show Steps p.tables e below (s₁.setTop (mkF m 28 #[.val (.int p1), .val (.int p2), .val (.int p3), .val (.int p4)] [])) _
        refine XS.iconst X0.here hx rfl (hb hby dho_28) ?_
        show Steps p.tables e below (s₁.setTop (mkF m 29 #[.val (.int p1), .val (.int p2), .val (.int p3), .val (.int p4)] [(.int (1 : Int32))])) _
        refine XS.goto X0.here hx rfl (pc0 := 29) (pc' := 33) rfl (hb hby dho_29) (by decide) (by decide) ?_
        show Steps p.tables e below (s₁.setTop (mkF m 33 #[.val (.int p1), .val (.int p2), .val (.int p3), .val (.int p4)] [(.int (1 : Int32))])) _
        exact k)
      obtain ⟨fs, hr, hrun, hended, hW, hsame⟩ := X0.leave (v := some (.int (1 : Int32))) (fun h => by rw [Bd.returns] at h; cases h)
      refine ⟨_, _, pre4 _ ?_, hrun, hended, _, _, rfl, ?_, ⟨_, rfl⟩, hW, hsame.mono (by decide) (by decide)⟩
      · exact retN X0 hx (t := .boolean) Bd.returns (by simp) (hb hby dho_33) hr
      · show Q_ho Z p1 p2 p3 p4 h0 n0 _ s₁.heap _
        unfold Q_ho; rw [hf]
        rw [e0]
        exact ⟨rfl, N0, rfl⟩
    · skip
      have hf : own_h p1 p2 p3 p4 = 0 := by unfold own_h; rw [if_neg h1, if_neg h2]
      have pre4 : ∀ t, Steps p.tables e below (s₁.setTop (mkF m 33 #[.val (.int p1), .val (.int p2), .val (.int p3), .val (.int p4)] [(.int (0 : Int32))])) t → Steps p.tables e below (s₁.setTop (entryFrame m #[(.int p1), (.int p2), (.int p3), (.int p4)] 4)) t := fun t k => pre3 t (by
        show Steps p.tables e below (s₁.setTop (mkF m 25 #[.val (.int p1), .val (.int p2), .val (.int p3), .val (.int p4)] [(.int (XT.cmpL ((2 : Int64) * (p2.toInt64)) ((p3 - p4).toInt64)))])) _
        refine XS.ifYes X0.here hx rfl (pc0 := 25) (pc' := 32) rfl (hb hby dho_25) rfl (XT.ll_ge_t h2) (by decide) (by decide) ?_
        show Steps p.tables e below (s₁.setTop (mkF m 32 #[.val (.int p1), .val (.int p2), .val (.int p3), .val (.int p4)] [])) _
        refine XS.iconst X0.here hx rfl (hb hby dho_32) ?_
        show Steps p.tables e below (s₁.setTop (mkF m 33 #[.val (.int p1), .val (.int p2), .val (.int p3), .val (.int p4)] [(.int (0 : Int32))])) _
        exact k)
      obtain ⟨fs, hr, hrun, hended, hW, hsame⟩ := X0.leave (v := some (.int (0 : Int32))) (fun h => by rw [Bd.returns] at h; cases h)
      refine ⟨_, _, pre4 _ ?_, hrun, hended, _, _, rfl, ?_, ⟨_, rfl⟩, hW, hsame.mono (by decide) (by decide)⟩
      · exact retN X0 hx (t := .boolean) Bd.returns (by simp) (hb hby dho_33) hr
      · show Q_ho Z p1 p2 p3 p4 h0 n0 _ s₁.heap _
        unfold Q_ho; rw [hf]
        rw [e0]
        exact ⟨rfl, N0, rfl⟩
theorem pd__IIII_Z : parseMethodDescriptor "(IIII)Z" = some ⟨[.int, .int, .int, .int], some .boolean⟩ := by decide +kernel
theorem pn_0 : plainName "com/example/aircord/aircord/check/ConditionHoldsPinLaw" = true := by first | (simp [plainName, overriddenIn]; done) | decide +kernel
theorem ef_0 (m : MethodId) (p1 : Int32) (p2 : Int32) (p3 : Int32) : entryFrame m #[(.int p1), (.int p2), (.int p3)] maxLocals = (mkF m 0 #[.val (.int p1), .val (.int p2), .val (.int p3), .unset, .unset, .unset, .unset, .unset, .unset, .unset, .unset, .unset] []) := by first | (simp [entryFrame, mkF, argsToLocals, Value.category, maxLocals]; done) | rfl
def Q_0 (Z : State) (p1 p2 p3 : Int32) (h0 : Heap) (n0 : Nat) (v : Option Value) (h : Heap) (L : List Loc) : Prop := v = some (.int 1) ∧ Fr n0 L
set_option maxRecDepth 65536 in
set_option maxHeartbeats 40000000 in
theorem rm_0 (l : Launch) (Z : State) (a0 : Array Value) (hw : ∀ d ∈ tables_1, d.before a0 Z = true) (ws : List Jvm.Cond) (p1 p2 p3 : Int32) (h0 : Heap) (n0 : Nat) (Z0 : n0 ≤ h0.size)  :
    MetFree l x (head1 (Jvm.Cond.code x code maxLocals ret :: ws) room_1) (fun a U => a = #[(.int p1), (.int p2), (.int p3)] ∧ Z.Warmed39 U.vm ∧ U.heap = h0) (fun _ _ _ _ _ => True) (fun _ U o U' => ∃ v L, o = .returned v ∧ Q_0 Z p1 p2 p3 h0 n0 v U'.heap L ∧ FrameEnd U o U' L room_1.cells room_1.slots) := by
  refine MetFree.of_bodySF (plainFor_of_name pn_0) hisR ?_
  intro p e s m args below meth c s₁ Bd hml0 hP hK
  obtain ⟨rfl, hZ, hh⟩ := hP
  have hx := Bd.exec
  have hby := Bd.bytes
  have hml : c.maxLocals = 12 := hml0
  have hown : s.vm.findClass "com/example/aircord/aircord/check/ConditionHoldsPinLaw" = some m.cls := findClass_of_methodNamed Bd.named
  have hnm := (name_of_methodNamed Bd.named Bd.method).1
  have X0 : Stand p l e room_1 s m #[(.int p1), (.int p2), (.int p3)] below meth c s₁ [] 0 0 := Stand.of_body Bd
  have e0 : s₁.heap = h0 := by rw [← hh, Bd.state]; rfl
  have N0 := Fr.nil n0
  have pre0 : ∀ t, Steps p.tables e below (s₁.setTop (mkF m 0 #[.val (.int p1), .val (.int p2), .val (.int p3), .unset, .unset, .unset, .unset, .unset, .unset, .unset, .unset, .unset] [])) t → Steps p.tables e below (s₁.setTop (entryFrame m #[(.int p1), (.int p2), (.int p3)] maxLocals)) t := fun t k => castTop (ef_0 m p1 p2 p3) k
  obtain ⟨nn, hnn, bn⟩ : ∃ z : Int32, (p1 &&& (1073741823 : Int32)) = z ∧ (0 ≤ z.toInt ∧ z.toInt < 1073741824) := ⟨_, rfl, own_nb p1⟩
  obtain ⟨tt, htt, bt⟩ : ∃ z : Int32, ((((p2.toInt64) &&& (2147483647 : Int64)) - (((p2.toInt64) &&& (2147483647 : Int64)) / ((nn.toInt64) + (1 : Int64))) * ((nn.toInt64) + (1 : Int64))).toInt32) = z ∧ (0 ≤ z.toInt ∧ z.toInt ≤ nn.toInt) := ⟨_, rfl, own_tb p2 bn⟩
  obtain ⟨oo, hoo, bo⟩ : ∃ z : Int32, ((((p3.toInt64) &&& (2147483647 : Int64)) - (((p3.toInt64) &&& (2147483647 : Int64)) / ((nn.toInt64) + (1 : Int64))) * ((nn.toInt64) + (1 : Int64))).toInt32) = z ∧ (0 ≤ z.toInt ∧ z.toInt ≤ nn.toInt) := ⟨_, rfl, own_tb p3 bn⟩
  obtain ⟨zz, hzz⟩ : ∃ z : Int32, nn - oo = z := ⟨_, rfl⟩
  have pre2 : ∀ t, Steps p.tables e below (s₁.setTop (mkF m 46 #[.val (.int p1), .val (.int p2), .val (.int p3), .val (.int nn), .val (.int tt), .val (.int oo), .val (.int zz), .unset, .unset, .unset, .unset, .unset] [(.int tt), (.int nn), (.int zz), (.int oo)])) t → Steps p.tables e below (s₁.setTop (entryFrame m #[(.int p1), (.int p2), (.int p3)] maxLocals)) t := fun t k => pre0 t (by
    show Steps p.tables e below (s₁.setTop (mkF m 0 #[.val (.int p1), .val (.int p2), .val (.int p3), .unset, .unset, .unset, .unset, .unset, .unset, .unset, .unset, .unset] [])) _
    refine XS.iloadN X0.here hx rfl (hb hby at_0) rfl ?_
    show Steps p.tables e below (s₁.setTop (mkF m 1 #[.val (.int p1), .val (.int p2), .val (.int p3), .unset, .unset, .unset, .unset, .unset, .unset, .unset, .unset, .unset] [(.int p1)])) _
    refine X0.ldcI hx hown (mvT hZ (hw _ (List.mem_of_getElem? (i := 0) rfl))) rfl (hb hby at_1) ?_
    show Steps p.tables e below (s₁.setTop (mkF m 3 #[.val (.int p1), .val (.int p2), .val (.int p3), .unset, .unset, .unset, .unset, .unset, .unset, .unset, .unset, .unset] [(.int (1073741823 : Int32)), (.int p1)])) _
    refine XS.iand X0.here hx rfl (hb hby at_3) rfl ?_
    show Steps p.tables e below (s₁.setTop (mkF m 4 #[.val (.int p1), .val (.int p2), .val (.int p3), .unset, .unset, .unset, .unset, .unset, .unset, .unset, .unset, .unset] [(.int (p1 &&& (1073741823 : Int32)))])) _
    rw [hnn]
    show Steps p.tables e below (s₁.setTop (mkF m 4 #[.val (.int p1), .val (.int p2), .val (.int p3), .unset, .unset, .unset, .unset, .unset, .unset, .unset, .unset, .unset] [(.int nn)])) _
    refine XS.istoreN X0.here hx rfl (hb hby at_4) rfl (l' := #[.val (.int p1), .val (.int p2), .val (.int p3), .val (.int nn), .unset, .unset, .unset, .unset, .unset, .unset, .unset, .unset]) rfl ?_
    show Steps p.tables e below (s₁.setTop (mkF m 5 #[.val (.int p1), .val (.int p2), .val (.int p3), .val (.int nn), .unset, .unset, .unset, .unset, .unset, .unset, .unset, .unset] [])) _
    refine XS.iloadN X0.here hx rfl (hb hby at_5) rfl ?_
    show Steps p.tables e below (s₁.setTop (mkF m 6 #[.val (.int p1), .val (.int p2), .val (.int p3), .val (.int nn), .unset, .unset, .unset, .unset, .unset, .unset, .unset, .unset] [(.int p2)])) _
    refine XT.i2l X0.here hx rfl (hb hby at_6) rfl ?_
    show Steps p.tables e below (s₁.setTop (mkF m 7 #[.val (.int p1), .val (.int p2), .val (.int p3), .val (.int nn), .unset, .unset, .unset, .unset, .unset, .unset, .unset, .unset] [(.long (p2.toInt64))])) _
    refine X0.ldc2J hx hown (mvT hZ (hw _ (List.mem_of_getElem? (i := 1) rfl))) rfl (hb hby at_7) ?_
    show Steps p.tables e below (s₁.setTop (mkF m 10 #[.val (.int p1), .val (.int p2), .val (.int p3), .val (.int nn), .unset, .unset, .unset, .unset, .unset, .unset, .unset, .unset] [(.long (2147483647 : Int64)), (.long (p2.toInt64))])) _
    refine XT.land X0.here hx rfl (hb hby at_10) rfl ?_
    show Steps p.tables e below (s₁.setTop (mkF m 11 #[.val (.int p1), .val (.int p2), .val (.int p3), .val (.int nn), .unset, .unset, .unset, .unset, .unset, .unset, .unset, .unset] [(.long ((p2.toInt64) &&& (2147483647 : Int64)))])) _
    refine XS.iloadN X0.here hx rfl (hb hby at_11) rfl ?_
    show Steps p.tables e below (s₁.setTop (mkF m 12 #[.val (.int p1), .val (.int p2), .val (.int p3), .val (.int nn), .unset, .unset, .unset, .unset, .unset, .unset, .unset, .unset] [(.int nn), (.long ((p2.toInt64) &&& (2147483647 : Int64)))])) _
    refine XT.i2l X0.here hx rfl (hb hby at_12) rfl ?_
    show Steps p.tables e below (s₁.setTop (mkF m 13 #[.val (.int p1), .val (.int p2), .val (.int p3), .val (.int nn), .unset, .unset, .unset, .unset, .unset, .unset, .unset, .unset] [(.long (nn.toInt64)), (.long ((p2.toInt64) &&& (2147483647 : Int64)))])) _
    refine XT.lconst X0.here hx rfl (hb hby at_13) ?_
    show Steps p.tables e below (s₁.setTop (mkF m 14 #[.val (.int p1), .val (.int p2), .val (.int p3), .val (.int nn), .unset, .unset, .unset, .unset, .unset, .unset, .unset, .unset] [(.long (1 : Int64)), (.long (nn.toInt64)), (.long ((p2.toInt64) &&& (2147483647 : Int64)))])) _
    refine XT.ladd X0.here hx rfl (hb hby at_14) rfl ?_
    show Steps p.tables e below (s₁.setTop (mkF m 15 #[.val (.int p1), .val (.int p2), .val (.int p3), .val (.int nn), .unset, .unset, .unset, .unset, .unset, .unset, .unset, .unset] [(.long ((nn.toInt64) + (1 : Int64))), (.long ((p2.toInt64) &&& (2147483647 : Int64)))])) _
    refine XT.lrem X0.here hx rfl (hb hby at_15) rfl (own_yne bn) ?_
    show Steps p.tables e below (s₁.setTop (mkF m 16 #[.val (.int p1), .val (.int p2), .val (.int p3), .val (.int nn), .unset, .unset, .unset, .unset, .unset, .unset, .unset, .unset] [(.long (((p2.toInt64) &&& (2147483647 : Int64)) - (((p2.toInt64) &&& (2147483647 : Int64)) / ((nn.toInt64) + (1 : Int64))) * ((nn.toInt64) + (1 : Int64))))])) _
    refine XT.l2i X0.here hx rfl (hb hby at_16) rfl ?_
    show Steps p.tables e below (s₁.setTop (mkF m 17 #[.val (.int p1), .val (.int p2), .val (.int p3), .val (.int nn), .unset, .unset, .unset, .unset, .unset, .unset, .unset, .unset] [(.int ((((p2.toInt64) &&& (2147483647 : Int64)) - (((p2.toInt64) &&& (2147483647 : Int64)) / ((nn.toInt64) + (1 : Int64))) * ((nn.toInt64) + (1 : Int64))).toInt32))])) _
    rw [htt]
    show Steps p.tables e below (s₁.setTop (mkF m 17 #[.val (.int p1), .val (.int p2), .val (.int p3), .val (.int nn), .unset, .unset, .unset, .unset, .unset, .unset, .unset, .unset] [(.int tt)])) _
    refine XS.istore X0.here hx rfl (hb hby at_17) rfl (l' := #[.val (.int p1), .val (.int p2), .val (.int p3), .val (.int nn), .val (.int tt), .unset, .unset, .unset, .unset, .unset, .unset, .unset]) rfl ?_
    show Steps p.tables e below (s₁.setTop (mkF m 19 #[.val (.int p1), .val (.int p2), .val (.int p3), .val (.int nn), .val (.int tt), .unset, .unset, .unset, .unset, .unset, .unset, .unset] [])) _
    refine XS.iloadN X0.here hx rfl (hb hby at_19) rfl ?_
    show Steps p.tables e below (s₁.setTop (mkF m 20 #[.val (.int p1), .val (.int p2), .val (.int p3), .val (.int nn), .val (.int tt), .unset, .unset, .unset, .unset, .unset, .unset, .unset] [(.int p3)])) _
    refine XT.i2l X0.here hx rfl (hb hby at_20) rfl ?_
    show Steps p.tables e below (s₁.setTop (mkF m 21 #[.val (.int p1), .val (.int p2), .val (.int p3), .val (.int nn), .val (.int tt), .unset, .unset, .unset, .unset, .unset, .unset, .unset] [(.long (p3.toInt64))])) _
    refine X0.ldc2J hx hown (mvT hZ (hw _ (List.mem_of_getElem? (i := 1) rfl))) rfl (hb hby at_21) ?_
    show Steps p.tables e below (s₁.setTop (mkF m 24 #[.val (.int p1), .val (.int p2), .val (.int p3), .val (.int nn), .val (.int tt), .unset, .unset, .unset, .unset, .unset, .unset, .unset] [(.long (2147483647 : Int64)), (.long (p3.toInt64))])) _
    refine XT.land X0.here hx rfl (hb hby at_24) rfl ?_
    show Steps p.tables e below (s₁.setTop (mkF m 25 #[.val (.int p1), .val (.int p2), .val (.int p3), .val (.int nn), .val (.int tt), .unset, .unset, .unset, .unset, .unset, .unset, .unset] [(.long ((p3.toInt64) &&& (2147483647 : Int64)))])) _
    refine XS.iloadN X0.here hx rfl (hb hby at_25) rfl ?_
    show Steps p.tables e below (s₁.setTop (mkF m 26 #[.val (.int p1), .val (.int p2), .val (.int p3), .val (.int nn), .val (.int tt), .unset, .unset, .unset, .unset, .unset, .unset, .unset] [(.int nn), (.long ((p3.toInt64) &&& (2147483647 : Int64)))])) _
    refine XT.i2l X0.here hx rfl (hb hby at_26) rfl ?_
    show Steps p.tables e below (s₁.setTop (mkF m 27 #[.val (.int p1), .val (.int p2), .val (.int p3), .val (.int nn), .val (.int tt), .unset, .unset, .unset, .unset, .unset, .unset, .unset] [(.long (nn.toInt64)), (.long ((p3.toInt64) &&& (2147483647 : Int64)))])) _
    refine XT.lconst X0.here hx rfl (hb hby at_27) ?_
    show Steps p.tables e below (s₁.setTop (mkF m 28 #[.val (.int p1), .val (.int p2), .val (.int p3), .val (.int nn), .val (.int tt), .unset, .unset, .unset, .unset, .unset, .unset, .unset] [(.long (1 : Int64)), (.long (nn.toInt64)), (.long ((p3.toInt64) &&& (2147483647 : Int64)))])) _
    refine XT.ladd X0.here hx rfl (hb hby at_28) rfl ?_
    show Steps p.tables e below (s₁.setTop (mkF m 29 #[.val (.int p1), .val (.int p2), .val (.int p3), .val (.int nn), .val (.int tt), .unset, .unset, .unset, .unset, .unset, .unset, .unset] [(.long ((nn.toInt64) + (1 : Int64))), (.long ((p3.toInt64) &&& (2147483647 : Int64)))])) _
    refine XT.lrem X0.here hx rfl (hb hby at_29) rfl (own_yne bn) ?_
    show Steps p.tables e below (s₁.setTop (mkF m 30 #[.val (.int p1), .val (.int p2), .val (.int p3), .val (.int nn), .val (.int tt), .unset, .unset, .unset, .unset, .unset, .unset, .unset] [(.long (((p3.toInt64) &&& (2147483647 : Int64)) - (((p3.toInt64) &&& (2147483647 : Int64)) / ((nn.toInt64) + (1 : Int64))) * ((nn.toInt64) + (1 : Int64))))])) _
    refine XT.l2i X0.here hx rfl (hb hby at_30) rfl ?_
    show Steps p.tables e below (s₁.setTop (mkF m 31 #[.val (.int p1), .val (.int p2), .val (.int p3), .val (.int nn), .val (.int tt), .unset, .unset, .unset, .unset, .unset, .unset, .unset] [(.int ((((p3.toInt64) &&& (2147483647 : Int64)) - (((p3.toInt64) &&& (2147483647 : Int64)) / ((nn.toInt64) + (1 : Int64))) * ((nn.toInt64) + (1 : Int64))).toInt32))])) _
    rw [hoo]
    show Steps p.tables e below (s₁.setTop (mkF m 31 #[.val (.int p1), .val (.int p2), .val (.int p3), .val (.int nn), .val (.int tt), .unset, .unset, .unset, .unset, .unset, .unset, .unset] [(.int oo)])) _
    refine XS.istore X0.here hx rfl (hb hby at_31) rfl (l' := #[.val (.int p1), .val (.int p2), .val (.int p3), .val (.int nn), .val (.int tt), .val (.int oo), .unset, .unset, .unset, .unset, .unset, .unset]) rfl ?_
    show Steps p.tables e below (s₁.setTop (mkF m 33 #[.val (.int p1), .val (.int p2), .val (.int p3), .val (.int nn), .val (.int tt), .val (.int oo), .unset, .unset, .unset, .unset, .unset, .unset] [])) _
    refine XS.iloadN X0.here hx rfl (hb hby at_33) rfl ?_
    show Steps p.tables e below (s₁.setTop (mkF m 34 #[.val (.int p1), .val (.int p2), .val (.int p3), .val (.int nn), .val (.int tt), .val (.int oo), .unset, .unset, .unset, .unset, .unset, .unset] [(.int nn)])) _
    refine XS.iload X0.here hx rfl (hb hby at_34) rfl ?_
    show Steps p.tables e below (s₁.setTop (mkF m 36 #[.val (.int p1), .val (.int p2), .val (.int p3), .val (.int nn), .val (.int tt), .val (.int oo), .unset, .unset, .unset, .unset, .unset, .unset] [(.int oo), (.int nn)])) _
    refine XS.isub X0.here hx rfl (hb hby at_36) rfl ?_
    show Steps p.tables e below (s₁.setTop (mkF m 37 #[.val (.int p1), .val (.int p2), .val (.int p3), .val (.int nn), .val (.int tt), .val (.int oo), .unset, .unset, .unset, .unset, .unset, .unset] [(.int (nn - oo))])) _
    rw [hzz]
    show Steps p.tables e below (s₁.setTop (mkF m 37 #[.val (.int p1), .val (.int p2), .val (.int p3), .val (.int nn), .val (.int tt), .val (.int oo), .unset, .unset, .unset, .unset, .unset, .unset] [(.int zz)])) _
    refine XS.istore X0.here hx rfl (hb hby at_37) rfl (l' := #[.val (.int p1), .val (.int p2), .val (.int p3), .val (.int nn), .val (.int tt), .val (.int oo), .val (.int zz), .unset, .unset, .unset, .unset, .unset]) rfl ?_
    show Steps p.tables e below (s₁.setTop (mkF m 39 #[.val (.int p1), .val (.int p2), .val (.int p3), .val (.int nn), .val (.int tt), .val (.int oo), .val (.int zz), .unset, .unset, .unset, .unset, .unset] [])) _
    refine XS.iload X0.here hx rfl (hb hby at_39) rfl ?_
    show Steps p.tables e below (s₁.setTop (mkF m 41 #[.val (.int p1), .val (.int p2), .val (.int p3), .val (.int nn), .val (.int tt), .val (.int oo), .val (.int zz), .unset, .unset, .unset, .unset, .unset] [(.int oo)])) _
    refine XS.iload X0.here hx rfl (hb hby at_41) rfl ?_
    show Steps p.tables e below (s₁.setTop (mkF m 43 #[.val (.int p1), .val (.int p2), .val (.int p3), .val (.int nn), .val (.int tt), .val (.int oo), .val (.int zz), .unset, .unset, .unset, .unset, .unset] [(.int zz), (.int oo)])) _
    refine XS.iloadN X0.here hx rfl (hb hby at_43) rfl ?_
    show Steps p.tables e below (s₁.setTop (mkF m 44 #[.val (.int p1), .val (.int p2), .val (.int p3), .val (.int nn), .val (.int tt), .val (.int oo), .val (.int zz), .unset, .unset, .unset, .unset, .unset] [(.int nn), (.int zz), (.int oo)])) _
    refine XS.iload X0.here hx rfl (hb hby at_44) rfl ?_
    show Steps p.tables e below (s₁.setTop (mkF m 46 #[.val (.int p1), .val (.int p2), .val (.int p3), .val (.int nn), .val (.int tt), .val (.int oo), .val (.int zz), .unset, .unset, .unset, .unset, .unset] [(.int tt), (.int nn), (.int zz), (.int oo)])) _
    exact k)
  by_cases hA : ((2 : Int64) * (oo.toInt64)) < ((nn.toInt64) - (tt.toInt64))
  · skip
    obtain ⟨q1, q2⟩ := own_r1 bn bt bo hzz hA
    obtain ⟨_, _, ⟨T3, L3, kk3, nn3⟩, -, X3, ⟨Lc3, hQ3, l3, y3, z3⟩, st3⟩ := Jvm.LawKit.callS X0 hx (y := (⟨"com/example/aircord/aircord/check/Condition", "holds", "(IIII)Z"⟩ : MethodName)) hown (mvT hZ (hw _ (List.mem_of_getElem? (i := 2) rfl))) (mvT hZ (hw _ (List.mem_of_getElem? (i := 3) rfl))) (mvT hZ (hw _ (List.mem_of_getElem? (i := 4) rfl))) (mvT hZ (hw _ (List.mem_of_getElem? (i := 5) rfl))) (by decide) (backOf (W := 0) (rm_ho l Z a0 hw [] oo zz nn tt h0 n0 Z0 ) hZ (hw _ (List.mem_of_getElem? (i := 5) rfl)) (hw _ (List.mem_of_getElem? (i := 4) rfl)) (by decide) (by decide)) (g := (mkF m 46 #[.val (.int p1), .val (.int p2), .val (.int p3), .val (.int nn), .val (.int tt), .val (.int oo), .val (.int zz), .unset, .unset, .unset, .unset, .unset] [(.int tt), (.int nn), (.int zz), (.int oo)])) rfl (by rw [hml]; rfl) (argsL := [(.int oo), (.int zz), (.int nn), (.int tt)]) (rest := []) (lenOf pd__IIII_Z rfl) rfl (by show 2 * 0 + _ ≤ _; exact Nat.le_of_eq rfl) (hb hby at_46) (fun _ _ => ⟨rfl, e0, (by decide : 0 + 0 ≤ _), (by decide : 0 + 0 ≤ _)⟩)
    dsimp only [Pt.U, Pt.locs, Pt.cells, Pt.slots] at X3 l3 y3 z3 st3 hQ3
    subst l3 y3 z3
    obtain ⟨rfl, N3q, eq3⟩ := hQ3
    have N3 := Fr.app N0 N3q
    have pre4 : ∀ t, Steps p.tables e below (T3.setTop (mkF m 98 #[.val (.int p1), .val (.int p2), .val (.int p3), .val (.int nn), .val (.int tt), .val (.int oo), .val (.int zz), .val (.int (1 : Int32)), .val (.long ((2 : Int64) * (oo.toInt64))), .second, .val (.int (1 : Int32)), .unset] [(.int tt), (.int nn), (.int oo), (.int zz)])) t → Steps p.tables e below (s₁.setTop (entryFrame m #[(.int p1), (.int p2), (.int p3)] maxLocals)) t := fun t k => pre2 t (by
      show Steps p.tables e below (s₁.setTop (mkF m 46 #[.val (.int p1), .val (.int p2), .val (.int p3), .val (.int nn), .val (.int tt), .val (.int oo), .val (.int zz), .unset, .unset, .unset, .unset, .unset] [(.int tt), (.int nn), (.int zz), (.int oo)])) _
      refine st3 _ ?_
      show Steps p.tables e below (T3.setTop (mkF m 49 #[.val (.int p1), .val (.int p2), .val (.int p3), .val (.int nn), .val (.int tt), .val (.int oo), .val (.int zz), .unset, .unset, .unset, .unset, .unset] [(.int (own_h oo zz nn tt))])) _
      rw [q1]
      show Steps p.tables e below (T3.setTop (mkF m 49 #[.val (.int p1), .val (.int p2), .val (.int p3), .val (.int nn), .val (.int tt), .val (.int oo), .val (.int zz), .unset, .unset, .unset, .unset, .unset] [(.int (1 : Int32))])) _
      refine XS.istore X3.here hx rfl (hb hby at_49) rfl (l' := #[.val (.int p1), .val (.int p2), .val (.int p3), .val (.int nn), .val (.int tt), .val (.int oo), .val (.int zz), .val (.int (1 : Int32)), .unset, .unset, .unset, .unset]) rfl ?_
      show Steps p.tables e below (T3.setTop (mkF m 51 #[.val (.int p1), .val (.int p2), .val (.int p3), .val (.int nn), .val (.int tt), .val (.int oo), .val (.int zz), .val (.int (1 : Int32)), .unset, .unset, .unset, .unset] [])) _
      refine X3.ldc2J hx hown (mvT hZ (hw _ (List.mem_of_getElem? (i := 7) rfl))) rfl (hb hby at_51) ?_
      show Steps p.tables e below (T3.setTop (mkF m 54 #[.val (.int p1), .val (.int p2), .val (.int p3), .val (.int nn), .val (.int tt), .val (.int oo), .val (.int zz), .val (.int (1 : Int32)), .unset, .unset, .unset, .unset] [(.long (2 : Int64))])) _
      refine XS.iload X3.here hx rfl (hb hby at_54) rfl ?_
      show Steps p.tables e below (T3.setTop (mkF m 56 #[.val (.int p1), .val (.int p2), .val (.int p3), .val (.int nn), .val (.int tt), .val (.int oo), .val (.int zz), .val (.int (1 : Int32)), .unset, .unset, .unset, .unset] [(.int oo), (.long (2 : Int64))])) _
      refine XT.i2l X3.here hx rfl (hb hby at_56) rfl ?_
      show Steps p.tables e below (T3.setTop (mkF m 57 #[.val (.int p1), .val (.int p2), .val (.int p3), .val (.int nn), .val (.int tt), .val (.int oo), .val (.int zz), .val (.int (1 : Int32)), .unset, .unset, .unset, .unset] [(.long (oo.toInt64)), (.long (2 : Int64))])) _
      refine XT.lmul X3.here hx rfl (hb hby at_57) rfl ?_
      show Steps p.tables e below (T3.setTop (mkF m 58 #[.val (.int p1), .val (.int p2), .val (.int p3), .val (.int nn), .val (.int tt), .val (.int oo), .val (.int zz), .val (.int (1 : Int32)), .unset, .unset, .unset, .unset] [(.long ((2 : Int64) * (oo.toInt64)))])) _
      refine XT.lstore X3.here hx rfl (hb hby at_58) rfl (l' := #[.val (.int p1), .val (.int p2), .val (.int p3), .val (.int nn), .val (.int tt), .val (.int oo), .val (.int zz), .val (.int (1 : Int32)), .val (.long ((2 : Int64) * (oo.toInt64))), .second, .unset, .unset]) rfl ?_
      show Steps p.tables e below (T3.setTop (mkF m 60 #[.val (.int p1), .val (.int p2), .val (.int p3), .val (.int nn), .val (.int tt), .val (.int oo), .val (.int zz), .val (.int (1 : Int32)), .val (.long ((2 : Int64) * (oo.toInt64))), .second, .unset, .unset] [])) _
      refine XT.lload X3.here hx rfl (hb hby at_60) rfl ?_
      show Steps p.tables e below (T3.setTop (mkF m 62 #[.val (.int p1), .val (.int p2), .val (.int p3), .val (.int nn), .val (.int tt), .val (.int oo), .val (.int zz), .val (.int (1 : Int32)), .val (.long ((2 : Int64) * (oo.toInt64))), .second, .unset, .unset] [(.long ((2 : Int64) * (oo.toInt64)))])) _
      refine XS.iloadN X3.here hx rfl (hb hby at_62) rfl ?_
      show Steps p.tables e below (T3.setTop (mkF m 63 #[.val (.int p1), .val (.int p2), .val (.int p3), .val (.int nn), .val (.int tt), .val (.int oo), .val (.int zz), .val (.int (1 : Int32)), .val (.long ((2 : Int64) * (oo.toInt64))), .second, .unset, .unset] [(.int nn), (.long ((2 : Int64) * (oo.toInt64)))])) _
      refine XT.i2l X3.here hx rfl (hb hby at_63) rfl ?_
      show Steps p.tables e below (T3.setTop (mkF m 64 #[.val (.int p1), .val (.int p2), .val (.int p3), .val (.int nn), .val (.int tt), .val (.int oo), .val (.int zz), .val (.int (1 : Int32)), .val (.long ((2 : Int64) * (oo.toInt64))), .second, .unset, .unset] [(.long (nn.toInt64)), (.long ((2 : Int64) * (oo.toInt64)))])) _
      refine XS.iload X3.here hx rfl (hb hby at_64) rfl ?_
      show Steps p.tables e below (T3.setTop (mkF m 66 #[.val (.int p1), .val (.int p2), .val (.int p3), .val (.int nn), .val (.int tt), .val (.int oo), .val (.int zz), .val (.int (1 : Int32)), .val (.long ((2 : Int64) * (oo.toInt64))), .second, .unset, .unset] [(.int tt), (.long (nn.toInt64)), (.long ((2 : Int64) * (oo.toInt64)))])) _
      refine XT.i2l X3.here hx rfl (hb hby at_66) rfl ?_
      show Steps p.tables e below (T3.setTop (mkF m 67 #[.val (.int p1), .val (.int p2), .val (.int p3), .val (.int nn), .val (.int tt), .val (.int oo), .val (.int zz), .val (.int (1 : Int32)), .val (.long ((2 : Int64) * (oo.toInt64))), .second, .unset, .unset] [(.long (tt.toInt64)), (.long (nn.toInt64)), (.long ((2 : Int64) * (oo.toInt64)))])) _
      refine XT.lsub X3.here hx rfl (hb hby at_67) rfl ?_
      show Steps p.tables e below (T3.setTop (mkF m 68 #[.val (.int p1), .val (.int p2), .val (.int p3), .val (.int nn), .val (.int tt), .val (.int oo), .val (.int zz), .val (.int (1 : Int32)), .val (.long ((2 : Int64) * (oo.toInt64))), .second, .unset, .unset] [(.long ((nn.toInt64) - (tt.toInt64))), (.long ((2 : Int64) * (oo.toInt64)))])) _
      refine XT.lcmp X3.here hx rfl (hb hby at_68) rfl ?_
      show Steps p.tables e below (T3.setTop (mkF m 69 #[.val (.int p1), .val (.int p2), .val (.int p3), .val (.int nn), .val (.int tt), .val (.int oo), .val (.int zz), .val (.int (1 : Int32)), .val (.long ((2 : Int64) * (oo.toInt64))), .second, .unset, .unset] [(.int (XT.cmpL ((2 : Int64) * (oo.toInt64)) ((nn.toInt64) - (tt.toInt64))))])) _
      refine XS.ifYes X3.here hx rfl (pc0 := 69) (pc' := 84) rfl (hb hby at_69) rfl (XT.ll_lt_t hA) (by decide) (by decide) ?_
      show Steps p.tables e below (T3.setTop (mkF m 84 #[.val (.int p1), .val (.int p2), .val (.int p3), .val (.int nn), .val (.int tt), .val (.int oo), .val (.int zz), .val (.int (1 : Int32)), .val (.long ((2 : Int64) * (oo.toInt64))), .second, .unset, .unset] [])) _
      refine XS.iconst X3.here hx rfl (hb hby at_84) ?_
      show Steps p.tables e below (T3.setTop (mkF m 85 #[.val (.int p1), .val (.int p2), .val (.int p3), .val (.int nn), .val (.int tt), .val (.int oo), .val (.int zz), .val (.int (1 : Int32)), .val (.long ((2 : Int64) * (oo.toInt64))), .second, .unset, .unset] [(.int (1 : Int32))])) _
      refine XS.goto X3.here hx rfl (pc0 := 85) (pc' := 89) rfl (hb hby at_85) (by decide) (by decide) ?_
      show Steps p.tables e below (T3.setTop (mkF m 89 #[.val (.int p1), .val (.int p2), .val (.int p3), .val (.int nn), .val (.int tt), .val (.int oo), .val (.int zz), .val (.int (1 : Int32)), .val (.long ((2 : Int64) * (oo.toInt64))), .second, .unset, .unset] [(.int (1 : Int32))])) _
      refine XS.istore X3.here hx rfl (hb hby at_89) rfl (l' := #[.val (.int p1), .val (.int p2), .val (.int p3), .val (.int nn), .val (.int tt), .val (.int oo), .val (.int zz), .val (.int (1 : Int32)), .val (.long ((2 : Int64) * (oo.toInt64))), .second, .val (.int (1 : Int32)), .unset]) rfl ?_
      show Steps p.tables e below (T3.setTop (mkF m 91 #[.val (.int p1), .val (.int p2), .val (.int p3), .val (.int nn), .val (.int tt), .val (.int oo), .val (.int zz), .val (.int (1 : Int32)), .val (.long ((2 : Int64) * (oo.toInt64))), .second, .val (.int (1 : Int32)), .unset] [])) _
      refine XS.iload X3.here hx rfl (hb hby at_91) rfl ?_
      show Steps p.tables e below (T3.setTop (mkF m 93 #[.val (.int p1), .val (.int p2), .val (.int p3), .val (.int nn), .val (.int tt), .val (.int oo), .val (.int zz), .val (.int (1 : Int32)), .val (.long ((2 : Int64) * (oo.toInt64))), .second, .val (.int (1 : Int32)), .unset] [(.int zz)])) _
      refine XS.iload X3.here hx rfl (hb hby at_93) rfl ?_
      show Steps p.tables e below (T3.setTop (mkF m 95 #[.val (.int p1), .val (.int p2), .val (.int p3), .val (.int nn), .val (.int tt), .val (.int oo), .val (.int zz), .val (.int (1 : Int32)), .val (.long ((2 : Int64) * (oo.toInt64))), .second, .val (.int (1 : Int32)), .unset] [(.int oo), (.int zz)])) _
      refine XS.iloadN X3.here hx rfl (hb hby at_95) rfl ?_
      show Steps p.tables e below (T3.setTop (mkF m 96 #[.val (.int p1), .val (.int p2), .val (.int p3), .val (.int nn), .val (.int tt), .val (.int oo), .val (.int zz), .val (.int (1 : Int32)), .val (.long ((2 : Int64) * (oo.toInt64))), .second, .val (.int (1 : Int32)), .unset] [(.int nn), (.int oo), (.int zz)])) _
      refine XS.iload X3.here hx rfl (hb hby at_96) rfl ?_
      show Steps p.tables e below (T3.setTop (mkF m 98 #[.val (.int p1), .val (.int p2), .val (.int p3), .val (.int nn), .val (.int tt), .val (.int oo), .val (.int zz), .val (.int (1 : Int32)), .val (.long ((2 : Int64) * (oo.toInt64))), .second, .val (.int (1 : Int32)), .unset] [(.int tt), (.int nn), (.int oo), (.int zz)])) _
      exact k)
    obtain ⟨_, _, ⟨T5, L5, kk5, nn5⟩, -, X5, ⟨Lc5, hQ5, l5, y5, z5⟩, st5⟩ := Jvm.LawKit.callS X3 hx (y := (⟨"com/example/aircord/aircord/check/Condition", "holds", "(IIII)Z"⟩ : MethodName)) hown (mvT hZ (hw _ (List.mem_of_getElem? (i := 2) rfl))) (mvT hZ (hw _ (List.mem_of_getElem? (i := 3) rfl))) (mvT hZ (hw _ (List.mem_of_getElem? (i := 4) rfl))) (mvT hZ (hw _ (List.mem_of_getElem? (i := 5) rfl))) (by decide) (backOf (W := 0) (rm_ho l Z a0 hw [] zz oo nn tt h0 n0 Z0 ) hZ (hw _ (List.mem_of_getElem? (i := 5) rfl)) (hw _ (List.mem_of_getElem? (i := 4) rfl)) (by decide) (by decide)) (g := (mkF m 98 #[.val (.int p1), .val (.int p2), .val (.int p3), .val (.int nn), .val (.int tt), .val (.int oo), .val (.int zz), .val (.int (1 : Int32)), .val (.long ((2 : Int64) * (oo.toInt64))), .second, .val (.int (1 : Int32)), .unset] [(.int tt), (.int nn), (.int oo), (.int zz)])) rfl (by rw [hml]; rfl) (argsL := [(.int zz), (.int oo), (.int nn), (.int tt)]) (rest := []) (lenOf pd__IIII_Z rfl) rfl (by show 2 * 0 + _ ≤ _; exact Nat.le_of_eq rfl) (hb hby at_98) (fun _ _ => ⟨rfl, eq3, (by decide : 0 + 0 ≤ _), (by decide : 0 + 0 ≤ _)⟩)
    dsimp only [Pt.U, Pt.locs, Pt.cells, Pt.slots] at X5 l5 y5 z5 st5 hQ5
    subst l5 y5 z5
    obtain ⟨rfl, N5q, eq5⟩ := hQ5
    have N5 := Fr.app N3 N5q
    have pre6 : ∀ t, Steps p.tables e below (T5.setTop (mkF m 122 #[.val (.int p1), .val (.int p2), .val (.int p3), .val (.int nn), .val (.int tt), .val (.int oo), .val (.int zz), .val (.int (1 : Int32)), .val (.long ((2 : Int64) * (oo.toInt64))), .second, .val (.int (1 : Int32)), .val (.int (1 : Int32))] [(.int (1 : Int32))])) t → Steps p.tables e below (s₁.setTop (entryFrame m #[(.int p1), (.int p2), (.int p3)] maxLocals)) t := fun t k => pre4 t (by
      show Steps p.tables e below (T3.setTop (mkF m 98 #[.val (.int p1), .val (.int p2), .val (.int p3), .val (.int nn), .val (.int tt), .val (.int oo), .val (.int zz), .val (.int (1 : Int32)), .val (.long ((2 : Int64) * (oo.toInt64))), .second, .val (.int (1 : Int32)), .unset] [(.int tt), (.int nn), (.int oo), (.int zz)])) _
      refine st5 _ ?_
      show Steps p.tables e below (T5.setTop (mkF m 101 #[.val (.int p1), .val (.int p2), .val (.int p3), .val (.int nn), .val (.int tt), .val (.int oo), .val (.int zz), .val (.int (1 : Int32)), .val (.long ((2 : Int64) * (oo.toInt64))), .second, .val (.int (1 : Int32)), .unset] [(.int (own_h zz oo nn tt))])) _
      rw [q2]
      show Steps p.tables e below (T5.setTop (mkF m 101 #[.val (.int p1), .val (.int p2), .val (.int p3), .val (.int nn), .val (.int tt), .val (.int oo), .val (.int zz), .val (.int (1 : Int32)), .val (.long ((2 : Int64) * (oo.toInt64))), .second, .val (.int (1 : Int32)), .unset] [(.int (1 : Int32))])) _
      refine XS.istore X5.here hx rfl (hb hby at_101) rfl (l' := #[.val (.int p1), .val (.int p2), .val (.int p3), .val (.int nn), .val (.int tt), .val (.int oo), .val (.int zz), .val (.int (1 : Int32)), .val (.long ((2 : Int64) * (oo.toInt64))), .second, .val (.int (1 : Int32)), .val (.int (1 : Int32))]) rfl ?_
      show Steps p.tables e below (T5.setTop (mkF m 103 #[.val (.int p1), .val (.int p2), .val (.int p3), .val (.int nn), .val (.int tt), .val (.int oo), .val (.int zz), .val (.int (1 : Int32)), .val (.long ((2 : Int64) * (oo.toInt64))), .second, .val (.int (1 : Int32)), .val (.int (1 : Int32))] [])) _
      refine XS.iload X5.here hx rfl (hb hby at_103) rfl ?_
      show Steps p.tables e below (T5.setTop (mkF m 105 #[.val (.int p1), .val (.int p2), .val (.int p3), .val (.int nn), .val (.int tt), .val (.int oo), .val (.int zz), .val (.int (1 : Int32)), .val (.long ((2 : Int64) * (oo.toInt64))), .second, .val (.int (1 : Int32)), .val (.int (1 : Int32))] [(.int (1 : Int32))])) _
      refine XS.iload X5.here hx rfl (hb hby at_105) rfl ?_
      show Steps p.tables e below (T5.setTop (mkF m 107 #[.val (.int p1), .val (.int p2), .val (.int p3), .val (.int nn), .val (.int tt), .val (.int oo), .val (.int zz), .val (.int (1 : Int32)), .val (.long ((2 : Int64) * (oo.toInt64))), .second, .val (.int (1 : Int32)), .val (.int (1 : Int32))] [(.int (1 : Int32)), (.int (1 : Int32))])) _
      refine XS.icmpNo X5.here hx rfl (hb hby at_107) rfl (XT.ii_ne_f rfl) ?_
      show Steps p.tables e below (T5.setTop (mkF m 110 #[.val (.int p1), .val (.int p2), .val (.int p3), .val (.int nn), .val (.int tt), .val (.int oo), .val (.int zz), .val (.int (1 : Int32)), .val (.long ((2 : Int64) * (oo.toInt64))), .second, .val (.int (1 : Int32)), .val (.int (1 : Int32))] [])) _
      refine XS.iload X5.here hx rfl (hb hby at_110) rfl ?_
      show Steps p.tables e below (T5.setTop (mkF m 112 #[.val (.int p1), .val (.int p2), .val (.int p3), .val (.int nn), .val (.int tt), .val (.int oo), .val (.int zz), .val (.int (1 : Int32)), .val (.long ((2 : Int64) * (oo.toInt64))), .second, .val (.int (1 : Int32)), .val (.int (1 : Int32))] [(.int (1 : Int32))])) _
      refine XS.iload X5.here hx rfl (hb hby at_112) rfl ?_
      show Steps p.tables e below (T5.setTop (mkF m 114 #[.val (.int p1), .val (.int p2), .val (.int p3), .val (.int nn), .val (.int tt), .val (.int oo), .val (.int zz), .val (.int (1 : Int32)), .val (.long ((2 : Int64) * (oo.toInt64))), .second, .val (.int (1 : Int32)), .val (.int (1 : Int32))] [(.int (1 : Int32)), (.int (1 : Int32))])) _
      refine XS.icmpNo X5.here hx rfl (hb hby at_114) rfl (XT.ii_ne_f rfl) ?_
      show Steps p.tables e below (T5.setTop (mkF m 117 #[.val (.int p1), .val (.int p2), .val (.int p3), .val (.int nn), .val (.int tt), .val (.int oo), .val (.int zz), .val (.int (1 : Int32)), .val (.long ((2 : Int64) * (oo.toInt64))), .second, .val (.int (1 : Int32)), .val (.int (1 : Int32))] [])) _
      refine XS.iconst X5.here hx rfl (hb hby at_117) ?_
      show Steps p.tables e below (T5.setTop (mkF m 118 #[.val (.int p1), .val (.int p2), .val (.int p3), .val (.int nn), .val (.int tt), .val (.int oo), .val (.int zz), .val (.int (1 : Int32)), .val (.long ((2 : Int64) * (oo.toInt64))), .second, .val (.int (1 : Int32)), .val (.int (1 : Int32))] [(.int (1 : Int32))])) _
      refine XS.goto X5.here hx rfl (pc0 := 118) (pc' := 122) rfl (hb hby at_118) (by decide) (by decide) ?_
      show Steps p.tables e below (T5.setTop (mkF m 122 #[.val (.int p1), .val (.int p2), .val (.int p3), .val (.int nn), .val (.int tt), .val (.int oo), .val (.int zz), .val (.int (1 : Int32)), .val (.long ((2 : Int64) * (oo.toInt64))), .second, .val (.int (1 : Int32)), .val (.int (1 : Int32))] [(.int (1 : Int32))])) _
      exact k)
    obtain ⟨fs, hr, hrun, hended, hW, hsame⟩ := X5.leave (v := some (.int (1 : Int32))) (fun h => by rw [Bd.returns] at h; cases h)
    refine ⟨_, _, pre6 _ ?_, hrun, hended, _, _, rfl, ?_, ⟨_, rfl⟩, hW, hsame.mono (by decide) (by decide)⟩
    · exact retN X5 hx (t := .boolean) Bd.returns (by simp) (hb hby at_122) hr
    · show Q_0 Z p1 p2 p3 h0 n0 _ T5.heap _
      rw [eq5]
      exact ⟨rfl, N5⟩
  · skip
    by_cases hB : ((nn.toInt64) + (tt.toInt64)) < ((2 : Int64) * (oo.toInt64))
    · skip
      obtain ⟨q1, q2⟩ := own_r2 bn bt bo hzz hB
      obtain ⟨_, _, ⟨T3, L3, kk3, nn3⟩, -, X3, ⟨Lc3, hQ3, l3, y3, z3⟩, st3⟩ := Jvm.LawKit.callS X0 hx (y := (⟨"com/example/aircord/aircord/check/Condition", "holds", "(IIII)Z"⟩ : MethodName)) hown (mvT hZ (hw _ (List.mem_of_getElem? (i := 2) rfl))) (mvT hZ (hw _ (List.mem_of_getElem? (i := 3) rfl))) (mvT hZ (hw _ (List.mem_of_getElem? (i := 4) rfl))) (mvT hZ (hw _ (List.mem_of_getElem? (i := 5) rfl))) (by decide) (backOf (W := 0) (rm_ho l Z a0 hw [] oo zz nn tt h0 n0 Z0 ) hZ (hw _ (List.mem_of_getElem? (i := 5) rfl)) (hw _ (List.mem_of_getElem? (i := 4) rfl)) (by decide) (by decide)) (g := (mkF m 46 #[.val (.int p1), .val (.int p2), .val (.int p3), .val (.int nn), .val (.int tt), .val (.int oo), .val (.int zz), .unset, .unset, .unset, .unset, .unset] [(.int tt), (.int nn), (.int zz), (.int oo)])) rfl (by rw [hml]; rfl) (argsL := [(.int oo), (.int zz), (.int nn), (.int tt)]) (rest := []) (lenOf pd__IIII_Z rfl) rfl (by show 2 * 0 + _ ≤ _; exact Nat.le_of_eq rfl) (hb hby at_46) (fun _ _ => ⟨rfl, e0, (by decide : 0 + 0 ≤ _), (by decide : 0 + 0 ≤ _)⟩)
      dsimp only [Pt.U, Pt.locs, Pt.cells, Pt.slots] at X3 l3 y3 z3 st3 hQ3
      subst l3 y3 z3
      obtain ⟨rfl, N3q, eq3⟩ := hQ3
      have N3 := Fr.app N0 N3q
      have pre4 : ∀ t, Steps p.tables e below (T3.setTop (mkF m 98 #[.val (.int p1), .val (.int p2), .val (.int p3), .val (.int nn), .val (.int tt), .val (.int oo), .val (.int zz), .val (.int (1 : Int32)), .val (.long ((2 : Int64) * (oo.toInt64))), .second, .val (.int (1 : Int32)), .unset] [(.int tt), (.int nn), (.int oo), (.int zz)])) t → Steps p.tables e below (s₁.setTop (entryFrame m #[(.int p1), (.int p2), (.int p3)] maxLocals)) t := fun t k => pre2 t (by
        show Steps p.tables e below (s₁.setTop (mkF m 46 #[.val (.int p1), .val (.int p2), .val (.int p3), .val (.int nn), .val (.int tt), .val (.int oo), .val (.int zz), .unset, .unset, .unset, .unset, .unset] [(.int tt), (.int nn), (.int zz), (.int oo)])) _
        refine st3 _ ?_
        show Steps p.tables e below (T3.setTop (mkF m 49 #[.val (.int p1), .val (.int p2), .val (.int p3), .val (.int nn), .val (.int tt), .val (.int oo), .val (.int zz), .unset, .unset, .unset, .unset, .unset] [(.int (own_h oo zz nn tt))])) _
        rw [q1]
        show Steps p.tables e below (T3.setTop (mkF m 49 #[.val (.int p1), .val (.int p2), .val (.int p3), .val (.int nn), .val (.int tt), .val (.int oo), .val (.int zz), .unset, .unset, .unset, .unset, .unset] [(.int (1 : Int32))])) _
        refine XS.istore X3.here hx rfl (hb hby at_49) rfl (l' := #[.val (.int p1), .val (.int p2), .val (.int p3), .val (.int nn), .val (.int tt), .val (.int oo), .val (.int zz), .val (.int (1 : Int32)), .unset, .unset, .unset, .unset]) rfl ?_
        show Steps p.tables e below (T3.setTop (mkF m 51 #[.val (.int p1), .val (.int p2), .val (.int p3), .val (.int nn), .val (.int tt), .val (.int oo), .val (.int zz), .val (.int (1 : Int32)), .unset, .unset, .unset, .unset] [])) _
        refine X3.ldc2J hx hown (mvT hZ (hw _ (List.mem_of_getElem? (i := 7) rfl))) rfl (hb hby at_51) ?_
        show Steps p.tables e below (T3.setTop (mkF m 54 #[.val (.int p1), .val (.int p2), .val (.int p3), .val (.int nn), .val (.int tt), .val (.int oo), .val (.int zz), .val (.int (1 : Int32)), .unset, .unset, .unset, .unset] [(.long (2 : Int64))])) _
        refine XS.iload X3.here hx rfl (hb hby at_54) rfl ?_
        show Steps p.tables e below (T3.setTop (mkF m 56 #[.val (.int p1), .val (.int p2), .val (.int p3), .val (.int nn), .val (.int tt), .val (.int oo), .val (.int zz), .val (.int (1 : Int32)), .unset, .unset, .unset, .unset] [(.int oo), (.long (2 : Int64))])) _
        refine XT.i2l X3.here hx rfl (hb hby at_56) rfl ?_
        show Steps p.tables e below (T3.setTop (mkF m 57 #[.val (.int p1), .val (.int p2), .val (.int p3), .val (.int nn), .val (.int tt), .val (.int oo), .val (.int zz), .val (.int (1 : Int32)), .unset, .unset, .unset, .unset] [(.long (oo.toInt64)), (.long (2 : Int64))])) _
        refine XT.lmul X3.here hx rfl (hb hby at_57) rfl ?_
        show Steps p.tables e below (T3.setTop (mkF m 58 #[.val (.int p1), .val (.int p2), .val (.int p3), .val (.int nn), .val (.int tt), .val (.int oo), .val (.int zz), .val (.int (1 : Int32)), .unset, .unset, .unset, .unset] [(.long ((2 : Int64) * (oo.toInt64)))])) _
        refine XT.lstore X3.here hx rfl (hb hby at_58) rfl (l' := #[.val (.int p1), .val (.int p2), .val (.int p3), .val (.int nn), .val (.int tt), .val (.int oo), .val (.int zz), .val (.int (1 : Int32)), .val (.long ((2 : Int64) * (oo.toInt64))), .second, .unset, .unset]) rfl ?_
        show Steps p.tables e below (T3.setTop (mkF m 60 #[.val (.int p1), .val (.int p2), .val (.int p3), .val (.int nn), .val (.int tt), .val (.int oo), .val (.int zz), .val (.int (1 : Int32)), .val (.long ((2 : Int64) * (oo.toInt64))), .second, .unset, .unset] [])) _
        refine XT.lload X3.here hx rfl (hb hby at_60) rfl ?_
        show Steps p.tables e below (T3.setTop (mkF m 62 #[.val (.int p1), .val (.int p2), .val (.int p3), .val (.int nn), .val (.int tt), .val (.int oo), .val (.int zz), .val (.int (1 : Int32)), .val (.long ((2 : Int64) * (oo.toInt64))), .second, .unset, .unset] [(.long ((2 : Int64) * (oo.toInt64)))])) _
        refine XS.iloadN X3.here hx rfl (hb hby at_62) rfl ?_
        show Steps p.tables e below (T3.setTop (mkF m 63 #[.val (.int p1), .val (.int p2), .val (.int p3), .val (.int nn), .val (.int tt), .val (.int oo), .val (.int zz), .val (.int (1 : Int32)), .val (.long ((2 : Int64) * (oo.toInt64))), .second, .unset, .unset] [(.int nn), (.long ((2 : Int64) * (oo.toInt64)))])) _
        refine XT.i2l X3.here hx rfl (hb hby at_63) rfl ?_
        show Steps p.tables e below (T3.setTop (mkF m 64 #[.val (.int p1), .val (.int p2), .val (.int p3), .val (.int nn), .val (.int tt), .val (.int oo), .val (.int zz), .val (.int (1 : Int32)), .val (.long ((2 : Int64) * (oo.toInt64))), .second, .unset, .unset] [(.long (nn.toInt64)), (.long ((2 : Int64) * (oo.toInt64)))])) _
        refine XS.iload X3.here hx rfl (hb hby at_64) rfl ?_
        show Steps p.tables e below (T3.setTop (mkF m 66 #[.val (.int p1), .val (.int p2), .val (.int p3), .val (.int nn), .val (.int tt), .val (.int oo), .val (.int zz), .val (.int (1 : Int32)), .val (.long ((2 : Int64) * (oo.toInt64))), .second, .unset, .unset] [(.int tt), (.long (nn.toInt64)), (.long ((2 : Int64) * (oo.toInt64)))])) _
        refine XT.i2l X3.here hx rfl (hb hby at_66) rfl ?_
        show Steps p.tables e below (T3.setTop (mkF m 67 #[.val (.int p1), .val (.int p2), .val (.int p3), .val (.int nn), .val (.int tt), .val (.int oo), .val (.int zz), .val (.int (1 : Int32)), .val (.long ((2 : Int64) * (oo.toInt64))), .second, .unset, .unset] [(.long (tt.toInt64)), (.long (nn.toInt64)), (.long ((2 : Int64) * (oo.toInt64)))])) _
        refine XT.lsub X3.here hx rfl (hb hby at_67) rfl ?_
        show Steps p.tables e below (T3.setTop (mkF m 68 #[.val (.int p1), .val (.int p2), .val (.int p3), .val (.int nn), .val (.int tt), .val (.int oo), .val (.int zz), .val (.int (1 : Int32)), .val (.long ((2 : Int64) * (oo.toInt64))), .second, .unset, .unset] [(.long ((nn.toInt64) - (tt.toInt64))), (.long ((2 : Int64) * (oo.toInt64)))])) _
        refine XT.lcmp X3.here hx rfl (hb hby at_68) rfl ?_
        show Steps p.tables e below (T3.setTop (mkF m 69 #[.val (.int p1), .val (.int p2), .val (.int p3), .val (.int nn), .val (.int tt), .val (.int oo), .val (.int zz), .val (.int (1 : Int32)), .val (.long ((2 : Int64) * (oo.toInt64))), .second, .unset, .unset] [(.int (XT.cmpL ((2 : Int64) * (oo.toInt64)) ((nn.toInt64) - (tt.toInt64))))])) _
        refine XS.ifNo X3.here hx rfl (hb hby at_69) rfl (XT.ll_lt_f hA) ?_
        show Steps p.tables e below (T3.setTop (mkF m 72 #[.val (.int p1), .val (.int p2), .val (.int p3), .val (.int nn), .val (.int tt), .val (.int oo), .val (.int zz), .val (.int (1 : Int32)), .val (.long ((2 : Int64) * (oo.toInt64))), .second, .unset, .unset] [])) _
        refine XT.lload X3.here hx rfl (hb hby at_72) rfl ?_
        show Steps p.tables e below (T3.setTop (mkF m 74 #[.val (.int p1), .val (.int p2), .val (.int p3), .val (.int nn), .val (.int tt), .val (.int oo), .val (.int zz), .val (.int (1 : Int32)), .val (.long ((2 : Int64) * (oo.toInt64))), .second, .unset, .unset] [(.long ((2 : Int64) * (oo.toInt64)))])) _
        refine XS.iloadN X3.here hx rfl (hb hby at_74) rfl ?_
        show Steps p.tables e below (T3.setTop (mkF m 75 #[.val (.int p1), .val (.int p2), .val (.int p3), .val (.int nn), .val (.int tt), .val (.int oo), .val (.int zz), .val (.int (1 : Int32)), .val (.long ((2 : Int64) * (oo.toInt64))), .second, .unset, .unset] [(.int nn), (.long ((2 : Int64) * (oo.toInt64)))])) _
        refine XT.i2l X3.here hx rfl (hb hby at_75) rfl ?_
        show Steps p.tables e below (T3.setTop (mkF m 76 #[.val (.int p1), .val (.int p2), .val (.int p3), .val (.int nn), .val (.int tt), .val (.int oo), .val (.int zz), .val (.int (1 : Int32)), .val (.long ((2 : Int64) * (oo.toInt64))), .second, .unset, .unset] [(.long (nn.toInt64)), (.long ((2 : Int64) * (oo.toInt64)))])) _
        refine XS.iload X3.here hx rfl (hb hby at_76) rfl ?_
        show Steps p.tables e below (T3.setTop (mkF m 78 #[.val (.int p1), .val (.int p2), .val (.int p3), .val (.int nn), .val (.int tt), .val (.int oo), .val (.int zz), .val (.int (1 : Int32)), .val (.long ((2 : Int64) * (oo.toInt64))), .second, .unset, .unset] [(.int tt), (.long (nn.toInt64)), (.long ((2 : Int64) * (oo.toInt64)))])) _
        refine XT.i2l X3.here hx rfl (hb hby at_78) rfl ?_
        show Steps p.tables e below (T3.setTop (mkF m 79 #[.val (.int p1), .val (.int p2), .val (.int p3), .val (.int nn), .val (.int tt), .val (.int oo), .val (.int zz), .val (.int (1 : Int32)), .val (.long ((2 : Int64) * (oo.toInt64))), .second, .unset, .unset] [(.long (tt.toInt64)), (.long (nn.toInt64)), (.long ((2 : Int64) * (oo.toInt64)))])) _
        refine XT.ladd X3.here hx rfl (hb hby at_79) rfl ?_
        show Steps p.tables e below (T3.setTop (mkF m 80 #[.val (.int p1), .val (.int p2), .val (.int p3), .val (.int nn), .val (.int tt), .val (.int oo), .val (.int zz), .val (.int (1 : Int32)), .val (.long ((2 : Int64) * (oo.toInt64))), .second, .unset, .unset] [(.long ((nn.toInt64) + (tt.toInt64))), (.long ((2 : Int64) * (oo.toInt64)))])) _
        refine XT.lcmp X3.here hx rfl (hb hby at_80) rfl ?_
        show Steps p.tables e below (T3.setTop (mkF m 81 #[.val (.int p1), .val (.int p2), .val (.int p3), .val (.int nn), .val (.int tt), .val (.int oo), .val (.int zz), .val (.int (1 : Int32)), .val (.long ((2 : Int64) * (oo.toInt64))), .second, .unset, .unset] [(.int (XT.cmpL ((2 : Int64) * (oo.toInt64)) ((nn.toInt64) + (tt.toInt64))))])) _
        refine XS.ifNo X3.here hx rfl (hb hby at_81) rfl (XT.ll_le_f hB) ?_
        show Steps p.tables e below (T3.setTop (mkF m 84 #[.val (.int p1), .val (.int p2), .val (.int p3), .val (.int nn), .val (.int tt), .val (.int oo), .val (.int zz), .val (.int (1 : Int32)), .val (.long ((2 : Int64) * (oo.toInt64))), .second, .unset, .unset] [])) _
        refine XS.iconst X3.here hx rfl (hb hby at_84) ?_
        show Steps p.tables e below (T3.setTop (mkF m 85 #[.val (.int p1), .val (.int p2), .val (.int p3), .val (.int nn), .val (.int tt), .val (.int oo), .val (.int zz), .val (.int (1 : Int32)), .val (.long ((2 : Int64) * (oo.toInt64))), .second, .unset, .unset] [(.int (1 : Int32))])) _
        refine XS.goto X3.here hx rfl (pc0 := 85) (pc' := 89) rfl (hb hby at_85) (by decide) (by decide) ?_
        show Steps p.tables e below (T3.setTop (mkF m 89 #[.val (.int p1), .val (.int p2), .val (.int p3), .val (.int nn), .val (.int tt), .val (.int oo), .val (.int zz), .val (.int (1 : Int32)), .val (.long ((2 : Int64) * (oo.toInt64))), .second, .unset, .unset] [(.int (1 : Int32))])) _
        refine XS.istore X3.here hx rfl (hb hby at_89) rfl (l' := #[.val (.int p1), .val (.int p2), .val (.int p3), .val (.int nn), .val (.int tt), .val (.int oo), .val (.int zz), .val (.int (1 : Int32)), .val (.long ((2 : Int64) * (oo.toInt64))), .second, .val (.int (1 : Int32)), .unset]) rfl ?_
        show Steps p.tables e below (T3.setTop (mkF m 91 #[.val (.int p1), .val (.int p2), .val (.int p3), .val (.int nn), .val (.int tt), .val (.int oo), .val (.int zz), .val (.int (1 : Int32)), .val (.long ((2 : Int64) * (oo.toInt64))), .second, .val (.int (1 : Int32)), .unset] [])) _
        refine XS.iload X3.here hx rfl (hb hby at_91) rfl ?_
        show Steps p.tables e below (T3.setTop (mkF m 93 #[.val (.int p1), .val (.int p2), .val (.int p3), .val (.int nn), .val (.int tt), .val (.int oo), .val (.int zz), .val (.int (1 : Int32)), .val (.long ((2 : Int64) * (oo.toInt64))), .second, .val (.int (1 : Int32)), .unset] [(.int zz)])) _
        refine XS.iload X3.here hx rfl (hb hby at_93) rfl ?_
        show Steps p.tables e below (T3.setTop (mkF m 95 #[.val (.int p1), .val (.int p2), .val (.int p3), .val (.int nn), .val (.int tt), .val (.int oo), .val (.int zz), .val (.int (1 : Int32)), .val (.long ((2 : Int64) * (oo.toInt64))), .second, .val (.int (1 : Int32)), .unset] [(.int oo), (.int zz)])) _
        refine XS.iloadN X3.here hx rfl (hb hby at_95) rfl ?_
        show Steps p.tables e below (T3.setTop (mkF m 96 #[.val (.int p1), .val (.int p2), .val (.int p3), .val (.int nn), .val (.int tt), .val (.int oo), .val (.int zz), .val (.int (1 : Int32)), .val (.long ((2 : Int64) * (oo.toInt64))), .second, .val (.int (1 : Int32)), .unset] [(.int nn), (.int oo), (.int zz)])) _
        refine XS.iload X3.here hx rfl (hb hby at_96) rfl ?_
        show Steps p.tables e below (T3.setTop (mkF m 98 #[.val (.int p1), .val (.int p2), .val (.int p3), .val (.int nn), .val (.int tt), .val (.int oo), .val (.int zz), .val (.int (1 : Int32)), .val (.long ((2 : Int64) * (oo.toInt64))), .second, .val (.int (1 : Int32)), .unset] [(.int tt), (.int nn), (.int oo), (.int zz)])) _
        exact k)
      obtain ⟨_, _, ⟨T5, L5, kk5, nn5⟩, -, X5, ⟨Lc5, hQ5, l5, y5, z5⟩, st5⟩ := Jvm.LawKit.callS X3 hx (y := (⟨"com/example/aircord/aircord/check/Condition", "holds", "(IIII)Z"⟩ : MethodName)) hown (mvT hZ (hw _ (List.mem_of_getElem? (i := 2) rfl))) (mvT hZ (hw _ (List.mem_of_getElem? (i := 3) rfl))) (mvT hZ (hw _ (List.mem_of_getElem? (i := 4) rfl))) (mvT hZ (hw _ (List.mem_of_getElem? (i := 5) rfl))) (by decide) (backOf (W := 0) (rm_ho l Z a0 hw [] zz oo nn tt h0 n0 Z0 ) hZ (hw _ (List.mem_of_getElem? (i := 5) rfl)) (hw _ (List.mem_of_getElem? (i := 4) rfl)) (by decide) (by decide)) (g := (mkF m 98 #[.val (.int p1), .val (.int p2), .val (.int p3), .val (.int nn), .val (.int tt), .val (.int oo), .val (.int zz), .val (.int (1 : Int32)), .val (.long ((2 : Int64) * (oo.toInt64))), .second, .val (.int (1 : Int32)), .unset] [(.int tt), (.int nn), (.int oo), (.int zz)])) rfl (by rw [hml]; rfl) (argsL := [(.int zz), (.int oo), (.int nn), (.int tt)]) (rest := []) (lenOf pd__IIII_Z rfl) rfl (by show 2 * 0 + _ ≤ _; exact Nat.le_of_eq rfl) (hb hby at_98) (fun _ _ => ⟨rfl, eq3, (by decide : 0 + 0 ≤ _), (by decide : 0 + 0 ≤ _)⟩)
      dsimp only [Pt.U, Pt.locs, Pt.cells, Pt.slots] at X5 l5 y5 z5 st5 hQ5
      subst l5 y5 z5
      obtain ⟨rfl, N5q, eq5⟩ := hQ5
      have N5 := Fr.app N3 N5q
      have pre6 : ∀ t, Steps p.tables e below (T5.setTop (mkF m 122 #[.val (.int p1), .val (.int p2), .val (.int p3), .val (.int nn), .val (.int tt), .val (.int oo), .val (.int zz), .val (.int (1 : Int32)), .val (.long ((2 : Int64) * (oo.toInt64))), .second, .val (.int (1 : Int32)), .val (.int (1 : Int32))] [(.int (1 : Int32))])) t → Steps p.tables e below (s₁.setTop (entryFrame m #[(.int p1), (.int p2), (.int p3)] maxLocals)) t := fun t k => pre4 t (by
        show Steps p.tables e below (T3.setTop (mkF m 98 #[.val (.int p1), .val (.int p2), .val (.int p3), .val (.int nn), .val (.int tt), .val (.int oo), .val (.int zz), .val (.int (1 : Int32)), .val (.long ((2 : Int64) * (oo.toInt64))), .second, .val (.int (1 : Int32)), .unset] [(.int tt), (.int nn), (.int oo), (.int zz)])) _
        refine st5 _ ?_
        show Steps p.tables e below (T5.setTop (mkF m 101 #[.val (.int p1), .val (.int p2), .val (.int p3), .val (.int nn), .val (.int tt), .val (.int oo), .val (.int zz), .val (.int (1 : Int32)), .val (.long ((2 : Int64) * (oo.toInt64))), .second, .val (.int (1 : Int32)), .unset] [(.int (own_h zz oo nn tt))])) _
        rw [q2]
        show Steps p.tables e below (T5.setTop (mkF m 101 #[.val (.int p1), .val (.int p2), .val (.int p3), .val (.int nn), .val (.int tt), .val (.int oo), .val (.int zz), .val (.int (1 : Int32)), .val (.long ((2 : Int64) * (oo.toInt64))), .second, .val (.int (1 : Int32)), .unset] [(.int (1 : Int32))])) _
        refine XS.istore X5.here hx rfl (hb hby at_101) rfl (l' := #[.val (.int p1), .val (.int p2), .val (.int p3), .val (.int nn), .val (.int tt), .val (.int oo), .val (.int zz), .val (.int (1 : Int32)), .val (.long ((2 : Int64) * (oo.toInt64))), .second, .val (.int (1 : Int32)), .val (.int (1 : Int32))]) rfl ?_
        show Steps p.tables e below (T5.setTop (mkF m 103 #[.val (.int p1), .val (.int p2), .val (.int p3), .val (.int nn), .val (.int tt), .val (.int oo), .val (.int zz), .val (.int (1 : Int32)), .val (.long ((2 : Int64) * (oo.toInt64))), .second, .val (.int (1 : Int32)), .val (.int (1 : Int32))] [])) _
        refine XS.iload X5.here hx rfl (hb hby at_103) rfl ?_
        show Steps p.tables e below (T5.setTop (mkF m 105 #[.val (.int p1), .val (.int p2), .val (.int p3), .val (.int nn), .val (.int tt), .val (.int oo), .val (.int zz), .val (.int (1 : Int32)), .val (.long ((2 : Int64) * (oo.toInt64))), .second, .val (.int (1 : Int32)), .val (.int (1 : Int32))] [(.int (1 : Int32))])) _
        refine XS.iload X5.here hx rfl (hb hby at_105) rfl ?_
        show Steps p.tables e below (T5.setTop (mkF m 107 #[.val (.int p1), .val (.int p2), .val (.int p3), .val (.int nn), .val (.int tt), .val (.int oo), .val (.int zz), .val (.int (1 : Int32)), .val (.long ((2 : Int64) * (oo.toInt64))), .second, .val (.int (1 : Int32)), .val (.int (1 : Int32))] [(.int (1 : Int32)), (.int (1 : Int32))])) _
        refine XS.icmpNo X5.here hx rfl (hb hby at_107) rfl (XT.ii_ne_f rfl) ?_
        show Steps p.tables e below (T5.setTop (mkF m 110 #[.val (.int p1), .val (.int p2), .val (.int p3), .val (.int nn), .val (.int tt), .val (.int oo), .val (.int zz), .val (.int (1 : Int32)), .val (.long ((2 : Int64) * (oo.toInt64))), .second, .val (.int (1 : Int32)), .val (.int (1 : Int32))] [])) _
        refine XS.iload X5.here hx rfl (hb hby at_110) rfl ?_
        show Steps p.tables e below (T5.setTop (mkF m 112 #[.val (.int p1), .val (.int p2), .val (.int p3), .val (.int nn), .val (.int tt), .val (.int oo), .val (.int zz), .val (.int (1 : Int32)), .val (.long ((2 : Int64) * (oo.toInt64))), .second, .val (.int (1 : Int32)), .val (.int (1 : Int32))] [(.int (1 : Int32))])) _
        refine XS.iload X5.here hx rfl (hb hby at_112) rfl ?_
        show Steps p.tables e below (T5.setTop (mkF m 114 #[.val (.int p1), .val (.int p2), .val (.int p3), .val (.int nn), .val (.int tt), .val (.int oo), .val (.int zz), .val (.int (1 : Int32)), .val (.long ((2 : Int64) * (oo.toInt64))), .second, .val (.int (1 : Int32)), .val (.int (1 : Int32))] [(.int (1 : Int32)), (.int (1 : Int32))])) _
        refine XS.icmpNo X5.here hx rfl (hb hby at_114) rfl (XT.ii_ne_f rfl) ?_
        show Steps p.tables e below (T5.setTop (mkF m 117 #[.val (.int p1), .val (.int p2), .val (.int p3), .val (.int nn), .val (.int tt), .val (.int oo), .val (.int zz), .val (.int (1 : Int32)), .val (.long ((2 : Int64) * (oo.toInt64))), .second, .val (.int (1 : Int32)), .val (.int (1 : Int32))] [])) _
        refine XS.iconst X5.here hx rfl (hb hby at_117) ?_
        show Steps p.tables e below (T5.setTop (mkF m 118 #[.val (.int p1), .val (.int p2), .val (.int p3), .val (.int nn), .val (.int tt), .val (.int oo), .val (.int zz), .val (.int (1 : Int32)), .val (.long ((2 : Int64) * (oo.toInt64))), .second, .val (.int (1 : Int32)), .val (.int (1 : Int32))] [(.int (1 : Int32))])) _
        refine XS.goto X5.here hx rfl (pc0 := 118) (pc' := 122) rfl (hb hby at_118) (by decide) (by decide) ?_
        show Steps p.tables e below (T5.setTop (mkF m 122 #[.val (.int p1), .val (.int p2), .val (.int p3), .val (.int nn), .val (.int tt), .val (.int oo), .val (.int zz), .val (.int (1 : Int32)), .val (.long ((2 : Int64) * (oo.toInt64))), .second, .val (.int (1 : Int32)), .val (.int (1 : Int32))] [(.int (1 : Int32))])) _
        exact k)
      obtain ⟨fs, hr, hrun, hended, hW, hsame⟩ := X5.leave (v := some (.int (1 : Int32))) (fun h => by rw [Bd.returns] at h; cases h)
      refine ⟨_, _, pre6 _ ?_, hrun, hended, _, _, rfl, ?_, ⟨_, rfl⟩, hW, hsame.mono (by decide) (by decide)⟩
      · exact retN X5 hx (t := .boolean) Bd.returns (by simp) (hb hby at_122) hr
      · show Q_0 Z p1 p2 p3 h0 n0 _ T5.heap _
        rw [eq5]
        exact ⟨rfl, N5⟩
    · skip
      obtain ⟨q1, q2⟩ := own_r3 bn bt bo hzz hA hB
      obtain ⟨_, _, ⟨T3, L3, kk3, nn3⟩, -, X3, ⟨Lc3, hQ3, l3, y3, z3⟩, st3⟩ := Jvm.LawKit.callS X0 hx (y := (⟨"com/example/aircord/aircord/check/Condition", "holds", "(IIII)Z"⟩ : MethodName)) hown (mvT hZ (hw _ (List.mem_of_getElem? (i := 2) rfl))) (mvT hZ (hw _ (List.mem_of_getElem? (i := 3) rfl))) (mvT hZ (hw _ (List.mem_of_getElem? (i := 4) rfl))) (mvT hZ (hw _ (List.mem_of_getElem? (i := 5) rfl))) (by decide) (backOf (W := 0) (rm_ho l Z a0 hw [] oo zz nn tt h0 n0 Z0 ) hZ (hw _ (List.mem_of_getElem? (i := 5) rfl)) (hw _ (List.mem_of_getElem? (i := 4) rfl)) (by decide) (by decide)) (g := (mkF m 46 #[.val (.int p1), .val (.int p2), .val (.int p3), .val (.int nn), .val (.int tt), .val (.int oo), .val (.int zz), .unset, .unset, .unset, .unset, .unset] [(.int tt), (.int nn), (.int zz), (.int oo)])) rfl (by rw [hml]; rfl) (argsL := [(.int oo), (.int zz), (.int nn), (.int tt)]) (rest := []) (lenOf pd__IIII_Z rfl) rfl (by show 2 * 0 + _ ≤ _; exact Nat.le_of_eq rfl) (hb hby at_46) (fun _ _ => ⟨rfl, e0, (by decide : 0 + 0 ≤ _), (by decide : 0 + 0 ≤ _)⟩)
      dsimp only [Pt.U, Pt.locs, Pt.cells, Pt.slots] at X3 l3 y3 z3 st3 hQ3
      subst l3 y3 z3
      obtain ⟨rfl, N3q, eq3⟩ := hQ3
      have N3 := Fr.app N0 N3q
      have pre4 : ∀ t, Steps p.tables e below (T3.setTop (mkF m 98 #[.val (.int p1), .val (.int p2), .val (.int p3), .val (.int nn), .val (.int tt), .val (.int oo), .val (.int zz), .val (.int (0 : Int32)), .val (.long ((2 : Int64) * (oo.toInt64))), .second, .val (.int (0 : Int32)), .unset] [(.int tt), (.int nn), (.int oo), (.int zz)])) t → Steps p.tables e below (s₁.setTop (entryFrame m #[(.int p1), (.int p2), (.int p3)] maxLocals)) t := fun t k => pre2 t (by
        show Steps p.tables e below (s₁.setTop (mkF m 46 #[.val (.int p1), .val (.int p2), .val (.int p3), .val (.int nn), .val (.int tt), .val (.int oo), .val (.int zz), .unset, .unset, .unset, .unset, .unset] [(.int tt), (.int nn), (.int zz), (.int oo)])) _
        refine st3 _ ?_
        show Steps p.tables e below (T3.setTop (mkF m 49 #[.val (.int p1), .val (.int p2), .val (.int p3), .val (.int nn), .val (.int tt), .val (.int oo), .val (.int zz), .unset, .unset, .unset, .unset, .unset] [(.int (own_h oo zz nn tt))])) _
        rw [q1]
        show Steps p.tables e below (T3.setTop (mkF m 49 #[.val (.int p1), .val (.int p2), .val (.int p3), .val (.int nn), .val (.int tt), .val (.int oo), .val (.int zz), .unset, .unset, .unset, .unset, .unset] [(.int (0 : Int32))])) _
        refine XS.istore X3.here hx rfl (hb hby at_49) rfl (l' := #[.val (.int p1), .val (.int p2), .val (.int p3), .val (.int nn), .val (.int tt), .val (.int oo), .val (.int zz), .val (.int (0 : Int32)), .unset, .unset, .unset, .unset]) rfl ?_
        show Steps p.tables e below (T3.setTop (mkF m 51 #[.val (.int p1), .val (.int p2), .val (.int p3), .val (.int nn), .val (.int tt), .val (.int oo), .val (.int zz), .val (.int (0 : Int32)), .unset, .unset, .unset, .unset] [])) _
        refine X3.ldc2J hx hown (mvT hZ (hw _ (List.mem_of_getElem? (i := 7) rfl))) rfl (hb hby at_51) ?_
        show Steps p.tables e below (T3.setTop (mkF m 54 #[.val (.int p1), .val (.int p2), .val (.int p3), .val (.int nn), .val (.int tt), .val (.int oo), .val (.int zz), .val (.int (0 : Int32)), .unset, .unset, .unset, .unset] [(.long (2 : Int64))])) _
        refine XS.iload X3.here hx rfl (hb hby at_54) rfl ?_
        show Steps p.tables e below (T3.setTop (mkF m 56 #[.val (.int p1), .val (.int p2), .val (.int p3), .val (.int nn), .val (.int tt), .val (.int oo), .val (.int zz), .val (.int (0 : Int32)), .unset, .unset, .unset, .unset] [(.int oo), (.long (2 : Int64))])) _
        refine XT.i2l X3.here hx rfl (hb hby at_56) rfl ?_
        show Steps p.tables e below (T3.setTop (mkF m 57 #[.val (.int p1), .val (.int p2), .val (.int p3), .val (.int nn), .val (.int tt), .val (.int oo), .val (.int zz), .val (.int (0 : Int32)), .unset, .unset, .unset, .unset] [(.long (oo.toInt64)), (.long (2 : Int64))])) _
        refine XT.lmul X3.here hx rfl (hb hby at_57) rfl ?_
        show Steps p.tables e below (T3.setTop (mkF m 58 #[.val (.int p1), .val (.int p2), .val (.int p3), .val (.int nn), .val (.int tt), .val (.int oo), .val (.int zz), .val (.int (0 : Int32)), .unset, .unset, .unset, .unset] [(.long ((2 : Int64) * (oo.toInt64)))])) _
        refine XT.lstore X3.here hx rfl (hb hby at_58) rfl (l' := #[.val (.int p1), .val (.int p2), .val (.int p3), .val (.int nn), .val (.int tt), .val (.int oo), .val (.int zz), .val (.int (0 : Int32)), .val (.long ((2 : Int64) * (oo.toInt64))), .second, .unset, .unset]) rfl ?_
        show Steps p.tables e below (T3.setTop (mkF m 60 #[.val (.int p1), .val (.int p2), .val (.int p3), .val (.int nn), .val (.int tt), .val (.int oo), .val (.int zz), .val (.int (0 : Int32)), .val (.long ((2 : Int64) * (oo.toInt64))), .second, .unset, .unset] [])) _
        refine XT.lload X3.here hx rfl (hb hby at_60) rfl ?_
        show Steps p.tables e below (T3.setTop (mkF m 62 #[.val (.int p1), .val (.int p2), .val (.int p3), .val (.int nn), .val (.int tt), .val (.int oo), .val (.int zz), .val (.int (0 : Int32)), .val (.long ((2 : Int64) * (oo.toInt64))), .second, .unset, .unset] [(.long ((2 : Int64) * (oo.toInt64)))])) _
        refine XS.iloadN X3.here hx rfl (hb hby at_62) rfl ?_
        show Steps p.tables e below (T3.setTop (mkF m 63 #[.val (.int p1), .val (.int p2), .val (.int p3), .val (.int nn), .val (.int tt), .val (.int oo), .val (.int zz), .val (.int (0 : Int32)), .val (.long ((2 : Int64) * (oo.toInt64))), .second, .unset, .unset] [(.int nn), (.long ((2 : Int64) * (oo.toInt64)))])) _
        refine XT.i2l X3.here hx rfl (hb hby at_63) rfl ?_
        show Steps p.tables e below (T3.setTop (mkF m 64 #[.val (.int p1), .val (.int p2), .val (.int p3), .val (.int nn), .val (.int tt), .val (.int oo), .val (.int zz), .val (.int (0 : Int32)), .val (.long ((2 : Int64) * (oo.toInt64))), .second, .unset, .unset] [(.long (nn.toInt64)), (.long ((2 : Int64) * (oo.toInt64)))])) _
        refine XS.iload X3.here hx rfl (hb hby at_64) rfl ?_
        show Steps p.tables e below (T3.setTop (mkF m 66 #[.val (.int p1), .val (.int p2), .val (.int p3), .val (.int nn), .val (.int tt), .val (.int oo), .val (.int zz), .val (.int (0 : Int32)), .val (.long ((2 : Int64) * (oo.toInt64))), .second, .unset, .unset] [(.int tt), (.long (nn.toInt64)), (.long ((2 : Int64) * (oo.toInt64)))])) _
        refine XT.i2l X3.here hx rfl (hb hby at_66) rfl ?_
        show Steps p.tables e below (T3.setTop (mkF m 67 #[.val (.int p1), .val (.int p2), .val (.int p3), .val (.int nn), .val (.int tt), .val (.int oo), .val (.int zz), .val (.int (0 : Int32)), .val (.long ((2 : Int64) * (oo.toInt64))), .second, .unset, .unset] [(.long (tt.toInt64)), (.long (nn.toInt64)), (.long ((2 : Int64) * (oo.toInt64)))])) _
        refine XT.lsub X3.here hx rfl (hb hby at_67) rfl ?_
        show Steps p.tables e below (T3.setTop (mkF m 68 #[.val (.int p1), .val (.int p2), .val (.int p3), .val (.int nn), .val (.int tt), .val (.int oo), .val (.int zz), .val (.int (0 : Int32)), .val (.long ((2 : Int64) * (oo.toInt64))), .second, .unset, .unset] [(.long ((nn.toInt64) - (tt.toInt64))), (.long ((2 : Int64) * (oo.toInt64)))])) _
        refine XT.lcmp X3.here hx rfl (hb hby at_68) rfl ?_
        show Steps p.tables e below (T3.setTop (mkF m 69 #[.val (.int p1), .val (.int p2), .val (.int p3), .val (.int nn), .val (.int tt), .val (.int oo), .val (.int zz), .val (.int (0 : Int32)), .val (.long ((2 : Int64) * (oo.toInt64))), .second, .unset, .unset] [(.int (XT.cmpL ((2 : Int64) * (oo.toInt64)) ((nn.toInt64) - (tt.toInt64))))])) _
        refine XS.ifNo X3.here hx rfl (hb hby at_69) rfl (XT.ll_lt_f hA) ?_
        show Steps p.tables e below (T3.setTop (mkF m 72 #[.val (.int p1), .val (.int p2), .val (.int p3), .val (.int nn), .val (.int tt), .val (.int oo), .val (.int zz), .val (.int (0 : Int32)), .val (.long ((2 : Int64) * (oo.toInt64))), .second, .unset, .unset] [])) _
        refine XT.lload X3.here hx rfl (hb hby at_72) rfl ?_
        show Steps p.tables e below (T3.setTop (mkF m 74 #[.val (.int p1), .val (.int p2), .val (.int p3), .val (.int nn), .val (.int tt), .val (.int oo), .val (.int zz), .val (.int (0 : Int32)), .val (.long ((2 : Int64) * (oo.toInt64))), .second, .unset, .unset] [(.long ((2 : Int64) * (oo.toInt64)))])) _
        refine XS.iloadN X3.here hx rfl (hb hby at_74) rfl ?_
        show Steps p.tables e below (T3.setTop (mkF m 75 #[.val (.int p1), .val (.int p2), .val (.int p3), .val (.int nn), .val (.int tt), .val (.int oo), .val (.int zz), .val (.int (0 : Int32)), .val (.long ((2 : Int64) * (oo.toInt64))), .second, .unset, .unset] [(.int nn), (.long ((2 : Int64) * (oo.toInt64)))])) _
        refine XT.i2l X3.here hx rfl (hb hby at_75) rfl ?_
        show Steps p.tables e below (T3.setTop (mkF m 76 #[.val (.int p1), .val (.int p2), .val (.int p3), .val (.int nn), .val (.int tt), .val (.int oo), .val (.int zz), .val (.int (0 : Int32)), .val (.long ((2 : Int64) * (oo.toInt64))), .second, .unset, .unset] [(.long (nn.toInt64)), (.long ((2 : Int64) * (oo.toInt64)))])) _
        refine XS.iload X3.here hx rfl (hb hby at_76) rfl ?_
        show Steps p.tables e below (T3.setTop (mkF m 78 #[.val (.int p1), .val (.int p2), .val (.int p3), .val (.int nn), .val (.int tt), .val (.int oo), .val (.int zz), .val (.int (0 : Int32)), .val (.long ((2 : Int64) * (oo.toInt64))), .second, .unset, .unset] [(.int tt), (.long (nn.toInt64)), (.long ((2 : Int64) * (oo.toInt64)))])) _
        refine XT.i2l X3.here hx rfl (hb hby at_78) rfl ?_
        show Steps p.tables e below (T3.setTop (mkF m 79 #[.val (.int p1), .val (.int p2), .val (.int p3), .val (.int nn), .val (.int tt), .val (.int oo), .val (.int zz), .val (.int (0 : Int32)), .val (.long ((2 : Int64) * (oo.toInt64))), .second, .unset, .unset] [(.long (tt.toInt64)), (.long (nn.toInt64)), (.long ((2 : Int64) * (oo.toInt64)))])) _
        refine XT.ladd X3.here hx rfl (hb hby at_79) rfl ?_
        show Steps p.tables e below (T3.setTop (mkF m 80 #[.val (.int p1), .val (.int p2), .val (.int p3), .val (.int nn), .val (.int tt), .val (.int oo), .val (.int zz), .val (.int (0 : Int32)), .val (.long ((2 : Int64) * (oo.toInt64))), .second, .unset, .unset] [(.long ((nn.toInt64) + (tt.toInt64))), (.long ((2 : Int64) * (oo.toInt64)))])) _
        refine XT.lcmp X3.here hx rfl (hb hby at_80) rfl ?_
        show Steps p.tables e below (T3.setTop (mkF m 81 #[.val (.int p1), .val (.int p2), .val (.int p3), .val (.int nn), .val (.int tt), .val (.int oo), .val (.int zz), .val (.int (0 : Int32)), .val (.long ((2 : Int64) * (oo.toInt64))), .second, .unset, .unset] [(.int (XT.cmpL ((2 : Int64) * (oo.toInt64)) ((nn.toInt64) + (tt.toInt64))))])) _
        refine XS.ifYes X3.here hx rfl (pc0 := 81) (pc' := 88) rfl (hb hby at_81) rfl (XT.ll_le_t hB) (by decide) (by decide) ?_
        show Steps p.tables e below (T3.setTop (mkF m 88 #[.val (.int p1), .val (.int p2), .val (.int p3), .val (.int nn), .val (.int tt), .val (.int oo), .val (.int zz), .val (.int (0 : Int32)), .val (.long ((2 : Int64) * (oo.toInt64))), .second, .unset, .unset] [])) _
        refine XS.iconst X3.here hx rfl (hb hby at_88) ?_
        show Steps p.tables e below (T3.setTop (mkF m 89 #[.val (.int p1), .val (.int p2), .val (.int p3), .val (.int nn), .val (.int tt), .val (.int oo), .val (.int zz), .val (.int (0 : Int32)), .val (.long ((2 : Int64) * (oo.toInt64))), .second, .unset, .unset] [(.int (0 : Int32))])) _
        refine XS.istore X3.here hx rfl (hb hby at_89) rfl (l' := #[.val (.int p1), .val (.int p2), .val (.int p3), .val (.int nn), .val (.int tt), .val (.int oo), .val (.int zz), .val (.int (0 : Int32)), .val (.long ((2 : Int64) * (oo.toInt64))), .second, .val (.int (0 : Int32)), .unset]) rfl ?_
        show Steps p.tables e below (T3.setTop (mkF m 91 #[.val (.int p1), .val (.int p2), .val (.int p3), .val (.int nn), .val (.int tt), .val (.int oo), .val (.int zz), .val (.int (0 : Int32)), .val (.long ((2 : Int64) * (oo.toInt64))), .second, .val (.int (0 : Int32)), .unset] [])) _
        refine XS.iload X3.here hx rfl (hb hby at_91) rfl ?_
        show Steps p.tables e below (T3.setTop (mkF m 93 #[.val (.int p1), .val (.int p2), .val (.int p3), .val (.int nn), .val (.int tt), .val (.int oo), .val (.int zz), .val (.int (0 : Int32)), .val (.long ((2 : Int64) * (oo.toInt64))), .second, .val (.int (0 : Int32)), .unset] [(.int zz)])) _
        refine XS.iload X3.here hx rfl (hb hby at_93) rfl ?_
        show Steps p.tables e below (T3.setTop (mkF m 95 #[.val (.int p1), .val (.int p2), .val (.int p3), .val (.int nn), .val (.int tt), .val (.int oo), .val (.int zz), .val (.int (0 : Int32)), .val (.long ((2 : Int64) * (oo.toInt64))), .second, .val (.int (0 : Int32)), .unset] [(.int oo), (.int zz)])) _
        refine XS.iloadN X3.here hx rfl (hb hby at_95) rfl ?_
        show Steps p.tables e below (T3.setTop (mkF m 96 #[.val (.int p1), .val (.int p2), .val (.int p3), .val (.int nn), .val (.int tt), .val (.int oo), .val (.int zz), .val (.int (0 : Int32)), .val (.long ((2 : Int64) * (oo.toInt64))), .second, .val (.int (0 : Int32)), .unset] [(.int nn), (.int oo), (.int zz)])) _
        refine XS.iload X3.here hx rfl (hb hby at_96) rfl ?_
        show Steps p.tables e below (T3.setTop (mkF m 98 #[.val (.int p1), .val (.int p2), .val (.int p3), .val (.int nn), .val (.int tt), .val (.int oo), .val (.int zz), .val (.int (0 : Int32)), .val (.long ((2 : Int64) * (oo.toInt64))), .second, .val (.int (0 : Int32)), .unset] [(.int tt), (.int nn), (.int oo), (.int zz)])) _
        exact k)
      obtain ⟨_, _, ⟨T5, L5, kk5, nn5⟩, -, X5, ⟨Lc5, hQ5, l5, y5, z5⟩, st5⟩ := Jvm.LawKit.callS X3 hx (y := (⟨"com/example/aircord/aircord/check/Condition", "holds", "(IIII)Z"⟩ : MethodName)) hown (mvT hZ (hw _ (List.mem_of_getElem? (i := 2) rfl))) (mvT hZ (hw _ (List.mem_of_getElem? (i := 3) rfl))) (mvT hZ (hw _ (List.mem_of_getElem? (i := 4) rfl))) (mvT hZ (hw _ (List.mem_of_getElem? (i := 5) rfl))) (by decide) (backOf (W := 0) (rm_ho l Z a0 hw [] zz oo nn tt h0 n0 Z0 ) hZ (hw _ (List.mem_of_getElem? (i := 5) rfl)) (hw _ (List.mem_of_getElem? (i := 4) rfl)) (by decide) (by decide)) (g := (mkF m 98 #[.val (.int p1), .val (.int p2), .val (.int p3), .val (.int nn), .val (.int tt), .val (.int oo), .val (.int zz), .val (.int (0 : Int32)), .val (.long ((2 : Int64) * (oo.toInt64))), .second, .val (.int (0 : Int32)), .unset] [(.int tt), (.int nn), (.int oo), (.int zz)])) rfl (by rw [hml]; rfl) (argsL := [(.int zz), (.int oo), (.int nn), (.int tt)]) (rest := []) (lenOf pd__IIII_Z rfl) rfl (by show 2 * 0 + _ ≤ _; exact Nat.le_of_eq rfl) (hb hby at_98) (fun _ _ => ⟨rfl, eq3, (by decide : 0 + 0 ≤ _), (by decide : 0 + 0 ≤ _)⟩)
      dsimp only [Pt.U, Pt.locs, Pt.cells, Pt.slots] at X5 l5 y5 z5 st5 hQ5
      subst l5 y5 z5
      obtain ⟨rfl, N5q, eq5⟩ := hQ5
      have N5 := Fr.app N3 N5q
      have pre6 : ∀ t, Steps p.tables e below (T5.setTop (mkF m 122 #[.val (.int p1), .val (.int p2), .val (.int p3), .val (.int nn), .val (.int tt), .val (.int oo), .val (.int zz), .val (.int (0 : Int32)), .val (.long ((2 : Int64) * (oo.toInt64))), .second, .val (.int (0 : Int32)), .val (.int (0 : Int32))] [(.int (1 : Int32))])) t → Steps p.tables e below (s₁.setTop (entryFrame m #[(.int p1), (.int p2), (.int p3)] maxLocals)) t := fun t k => pre4 t (by
        show Steps p.tables e below (T3.setTop (mkF m 98 #[.val (.int p1), .val (.int p2), .val (.int p3), .val (.int nn), .val (.int tt), .val (.int oo), .val (.int zz), .val (.int (0 : Int32)), .val (.long ((2 : Int64) * (oo.toInt64))), .second, .val (.int (0 : Int32)), .unset] [(.int tt), (.int nn), (.int oo), (.int zz)])) _
        refine st5 _ ?_
        show Steps p.tables e below (T5.setTop (mkF m 101 #[.val (.int p1), .val (.int p2), .val (.int p3), .val (.int nn), .val (.int tt), .val (.int oo), .val (.int zz), .val (.int (0 : Int32)), .val (.long ((2 : Int64) * (oo.toInt64))), .second, .val (.int (0 : Int32)), .unset] [(.int (own_h zz oo nn tt))])) _
        rw [q2]
        show Steps p.tables e below (T5.setTop (mkF m 101 #[.val (.int p1), .val (.int p2), .val (.int p3), .val (.int nn), .val (.int tt), .val (.int oo), .val (.int zz), .val (.int (0 : Int32)), .val (.long ((2 : Int64) * (oo.toInt64))), .second, .val (.int (0 : Int32)), .unset] [(.int (0 : Int32))])) _
        refine XS.istore X5.here hx rfl (hb hby at_101) rfl (l' := #[.val (.int p1), .val (.int p2), .val (.int p3), .val (.int nn), .val (.int tt), .val (.int oo), .val (.int zz), .val (.int (0 : Int32)), .val (.long ((2 : Int64) * (oo.toInt64))), .second, .val (.int (0 : Int32)), .val (.int (0 : Int32))]) rfl ?_
        show Steps p.tables e below (T5.setTop (mkF m 103 #[.val (.int p1), .val (.int p2), .val (.int p3), .val (.int nn), .val (.int tt), .val (.int oo), .val (.int zz), .val (.int (0 : Int32)), .val (.long ((2 : Int64) * (oo.toInt64))), .second, .val (.int (0 : Int32)), .val (.int (0 : Int32))] [])) _
        refine XS.iload X5.here hx rfl (hb hby at_103) rfl ?_
        show Steps p.tables e below (T5.setTop (mkF m 105 #[.val (.int p1), .val (.int p2), .val (.int p3), .val (.int nn), .val (.int tt), .val (.int oo), .val (.int zz), .val (.int (0 : Int32)), .val (.long ((2 : Int64) * (oo.toInt64))), .second, .val (.int (0 : Int32)), .val (.int (0 : Int32))] [(.int (0 : Int32))])) _
        refine XS.iload X5.here hx rfl (hb hby at_105) rfl ?_
        show Steps p.tables e below (T5.setTop (mkF m 107 #[.val (.int p1), .val (.int p2), .val (.int p3), .val (.int nn), .val (.int tt), .val (.int oo), .val (.int zz), .val (.int (0 : Int32)), .val (.long ((2 : Int64) * (oo.toInt64))), .second, .val (.int (0 : Int32)), .val (.int (0 : Int32))] [(.int (0 : Int32)), (.int (0 : Int32))])) _
        refine XS.icmpNo X5.here hx rfl (hb hby at_107) rfl (XT.ii_ne_f rfl) ?_
        show Steps p.tables e below (T5.setTop (mkF m 110 #[.val (.int p1), .val (.int p2), .val (.int p3), .val (.int nn), .val (.int tt), .val (.int oo), .val (.int zz), .val (.int (0 : Int32)), .val (.long ((2 : Int64) * (oo.toInt64))), .second, .val (.int (0 : Int32)), .val (.int (0 : Int32))] [])) _
        refine XS.iload X5.here hx rfl (hb hby at_110) rfl ?_
        show Steps p.tables e below (T5.setTop (mkF m 112 #[.val (.int p1), .val (.int p2), .val (.int p3), .val (.int nn), .val (.int tt), .val (.int oo), .val (.int zz), .val (.int (0 : Int32)), .val (.long ((2 : Int64) * (oo.toInt64))), .second, .val (.int (0 : Int32)), .val (.int (0 : Int32))] [(.int (0 : Int32))])) _
        refine XS.iload X5.here hx rfl (hb hby at_112) rfl ?_
        show Steps p.tables e below (T5.setTop (mkF m 114 #[.val (.int p1), .val (.int p2), .val (.int p3), .val (.int nn), .val (.int tt), .val (.int oo), .val (.int zz), .val (.int (0 : Int32)), .val (.long ((2 : Int64) * (oo.toInt64))), .second, .val (.int (0 : Int32)), .val (.int (0 : Int32))] [(.int (0 : Int32)), (.int (0 : Int32))])) _
        refine XS.icmpNo X5.here hx rfl (hb hby at_114) rfl (XT.ii_ne_f rfl) ?_
        show Steps p.tables e below (T5.setTop (mkF m 117 #[.val (.int p1), .val (.int p2), .val (.int p3), .val (.int nn), .val (.int tt), .val (.int oo), .val (.int zz), .val (.int (0 : Int32)), .val (.long ((2 : Int64) * (oo.toInt64))), .second, .val (.int (0 : Int32)), .val (.int (0 : Int32))] [])) _
        refine XS.iconst X5.here hx rfl (hb hby at_117) ?_
        show Steps p.tables e below (T5.setTop (mkF m 118 #[.val (.int p1), .val (.int p2), .val (.int p3), .val (.int nn), .val (.int tt), .val (.int oo), .val (.int zz), .val (.int (0 : Int32)), .val (.long ((2 : Int64) * (oo.toInt64))), .second, .val (.int (0 : Int32)), .val (.int (0 : Int32))] [(.int (1 : Int32))])) _
        refine XS.goto X5.here hx rfl (pc0 := 118) (pc' := 122) rfl (hb hby at_118) (by decide) (by decide) ?_
        show Steps p.tables e below (T5.setTop (mkF m 122 #[.val (.int p1), .val (.int p2), .val (.int p3), .val (.int nn), .val (.int tt), .val (.int oo), .val (.int zz), .val (.int (0 : Int32)), .val (.long ((2 : Int64) * (oo.toInt64))), .second, .val (.int (0 : Int32)), .val (.int (0 : Int32))] [(.int (1 : Int32))])) _
        exact k)
      obtain ⟨fs, hr, hrun, hended, hW, hsame⟩ := X5.leave (v := some (.int (1 : Int32))) (fun h => by rw [Bd.returns] at h; cases h)
      refine ⟨_, _, pre6 _ ?_, hrun, hended, _, _, rfl, ?_, ⟨_, rfl⟩, hW, hsame.mono (by decide) (by decide)⟩
      · exact retN X5 hx (t := .boolean) Bd.returns (by simp) (hb hby at_122) hr
      · show Q_0 Z p1 p2 p3 h0 n0 _ T5.heap _
        rw [eq5]
        exact ⟨rfl, N5⟩
set_option maxRecDepth 65536 in
set_option maxHeartbeats 40000000 in
theorem comes_1 {Post : Tables → Env → Array Value → State → Outcome → State → Prop} (hpost : ∀ tb e args s v u, (limb_1_1.after args s (.returned v) u = true ∧ limb_1_2.after args s (.returned v) u = true ∧ True) → FrameEnd s (.returned v) u (Jvm.fieldLocs frame_1_writes args s ++ Jvm.arrayLocs frame_1_arrays args s ++ Jvm.staticLocs frame_1_statics s) 0 0 → Post tb e args s (.returned v) u) :
    ArmFor flags0 classFile x code maxLocals ret World_1 tables_1 room_1 Calls_1 rest_1 Pre_1 Post := by
  intro l hfl _ _ p e ha hc hk s m args below hf hA hF happ hP
  obtain ⟨hcalls, hrest, hpre⟩ := hP
  obtain ⟨-, -, -, hnamed, -, -, -, hat⟩ := (Spec.applies_iff hf).mp happ
  obtain ⟨hg, hn⟩ := and_e (Cond.before_iff.mp (show (Jvm.Cond.and given_1 narrow_1).before args s = true from hpre))
  obtain ⟨gc, hg⟩ := and_e hg
  obtain ⟨gi0, hg⟩ := and_e hg
  obtain ⟨gi1, hg⟩ := and_e hg
  have gi2 := hg
  obtain ⟨w0, w1, w2, rfl⟩ : ∃ w0 w1 w2 : Value, args = #[w0, w1, w2] := by
    have hs : args.size = 3 := by simpa [Cond.value, given_1] using gc
    obtain ⟨L⟩ := args
    match L, hs with
    | [w0, w1, w2], _ => exact ⟨w0, w1, w2, rfl⟩
  have hw := fun d (hd : d ∈ tables_1) => atoms_spec (ws := Jvm.Cond.code x code maxLocals ret :: tables_1) hat d (List.mem_cons_of_mem _ hd)
  have hfit : Fit s := fun {y c} hc i hi => by
    obtain ⟨ha, rfl⟩ := Array.getElem?_eq_some_iff.mp hc
    have q := List.all_eq_true.mp ((Array.all_eq_true_iff_forall_mem.mp hF) _ (Array.getElem_mem ha)) i (List.mem_range.mpr hi)
    simpa [Array.getElem?_eq_getElem hi] using q
  obtain ⟨i0, ei0⟩ := is_v gi0
  obtain rfl : w0 = (.int i0) := Option.some.inj ei0
  obtain ⟨i1, ei1⟩ := is_v gi1
  obtain rfl : w1 = (.int i1) := Option.some.inj ei1
  obtain ⟨i2, ei2⟩ := is_v gi2
  obtain rfl : w2 = (.int i2) := Option.some.inj ei2
  obtain ⟨n, o, h1, h2, h3, _, L, rfl, ⟨rfl, N⟩, hq⟩ := rm_0 l s _ hw tables_1 i0 i1 i2  s.heap s.heap.size (Nat.le_refl _)  p e ha hc hk s m _ below hf ((Spec.applies_iff_loose hf).mp happ).1 ⟨rfl, State.Warmed39.refl s, rfl⟩ trivial
  refine ⟨n, _, h1, h2, h3, hpost _ _ _ _ _ _ ⟨Cond.after_iff.mpr rfl, Cond.after_iff.mpr (eq_i res_at (Term.int_eval (1)) rfl), trivial⟩ ⟨hq.1, hq.2.1, (hq.2.2.sift fun y hy => Or.inr (N y hy)).mono (by decide) (by decide)⟩⟩
theorem main_1_1 : Claimed_1_1 := comes_1 fun _ _ _ _ _ _ h hF => ⟨h.1, hF⟩
theorem main_1_2 : Claimed_1_2 := comes_1 fun _ _ _ _ _ _ h hF => ⟨h.2.1, hF⟩
end Jvm.Pilot.@@N@@
namespace Jvm.Pilot.@@N@@
open Jvm Jvm.ClassFile Sem Op Lib Jvm.Free Jvm.Stand Jvm.Pilot.@@N@@.Jvm.D
/-! MADE BY PROGRAM (witnessworld.py) out of the Statement's table words and the real class files: 9 classes; the members and pool entries that the words name. The judged class is class 1, her method 1. -/
namespace start1
open Jvm.ClassFile
def u (s : String) : CpInfo := .utf8 (stringToUtf16 s)
/-- a pool by its gaps: so many unusable entries, then the entry; so many at the end -/
def gap : Nat → List CpInfo → List CpInfo
  | 0, r => r
  | n + 1, r => .unusable :: gap n r
def poolList (es : List (Nat × CpInfo)) (last : Nat) : List CpInfo := es.foldr (fun e r => gap e.1 (e.2 :: r)) (gap last [])
def pool (es : List (Nat × CpInfo)) (last : Nat) : Array CpInfo := ⟨poolList es last⟩
def fileOf (pool : Array CpInfo) (this : Nat) (attrs : Array Attribute := #[]) (ms : Array MethodInfo := #[]) (fl : Nat := 33) (sup : Nat := 0) (ifs : Array Nat := #[]) (fds : Array FieldInfo := #[]) : ClassFile where
  minorVersion := 0
  majorVersion := 65
  constantPool := pool
  accessFlags := fl
  thisClass := this
  superClass := sup
  interfaces := ifs
  fields := fds
  methods := ms
  attributes := attrs
def plain (name : String) (sup : Option ClassId) : Class where
  name := name
  kind := .ordinary
  loader := none
  accessFlags := 33
  super := sup
  interfaces := #[]
  cf := none
  fields := #[]
  methods := #[]
  instanceTypes := #[]
  staticTypes := #[]
  resolved := #[]
  callSites := []
  init := .initialized
  statics := none
  mirror := none

def pool0 : Array CpInfo := pool [(5, u "<init>"), (0, u "()V"), (1, .class_ 10), (1, u "java/lang/Object")] 113

def k0m0 : Method := { name := "<init>", desc := "()V", sig := { parameters := [], returnType := none }, accessFlags := 1, code := none }
/-- java/lang/Object -/
def k0 : Class := { plain "java/lang/Object" none with
  accessFlags := 33
  interfaces := #[]
  cf := some (fileOf pool0 8 #[] #[{ accessFlags := 1, nameIndex := 5, descriptorIndex := 6, attributes := #[] }] 33 0 #[] #[])
  fields := #[]
  methods := #[k0m0]
  instanceTypes := #[]
  staticTypes := #[]
  resolved := Array.replicate 124 none
  statics := none }

def pool1 : Array CpInfo := pool [(2, .class_ 4), (1, u "java/lang/Object"), (0, u "<init>"), (0, u "()V"), (0, .integer 1073741823), (0, .long 2147483647), (1, .methodref 11 12), (0, .class_ 13), (0, .nameAndType 14 15), (0, u "com/example/aircord/aircord/check/Condition"), (0, u "holds"), (0, u "(IIII)Z"), (0, .long 2), (1, .class_ 19), (0, u "com/example/aircord/aircord/check/ConditionHoldsPinLaw"), (2, u "law"), (0, u "(III)Z")] 3

def k1m0 : Method := { name := "<init>", desc := "()V", sig := { parameters := [], returnType := none }, accessFlags := 2, code := none }
def k1c1 : Code := { maxStack := 6, maxLocals := 12, code := code, exceptionTable := #[], attributes := #[] }
def k1m1 : Method := { name := "law", desc := "(III)Z", sig := { parameters := [.int, .int, .int], returnType := some .boolean }, accessFlags := 9, code := some k1c1 }
/-- com/example/aircord/aircord/check/ConditionHoldsPinLaw -/
def k1 : Class := { plain "com/example/aircord/aircord/check/ConditionHoldsPinLaw" (some 0) with
  accessFlags := 49
  interfaces := #[]
  cf := some (fileOf pool1 18 #[] #[{ accessFlags := 2, nameIndex := 5, descriptorIndex := 6, attributes := #[] }, { accessFlags := 9, nameIndex := 22, descriptorIndex := 23, attributes := #[] }] 49 2 #[] #[])
  fields := #[]
  methods := #[k1m0, k1m1]
  instanceTypes := #[]
  staticTypes := #[]
  resolved := Array.replicate 27 none
  statics := none }

def pool2 : Array CpInfo := pool [(2, .class_ 4), (1, u "java/lang/Object"), (0, u "<init>"), (0, u "()V"), (0, .long 2), (1, .class_ 10), (0, u "com/example/aircord/aircord/check/Condition"), (2, u "holds"), (0, u "(IIII)Z")] 3

def k2m0 : Method := { name := "<init>", desc := "()V", sig := { parameters := [], returnType := none }, accessFlags := 2, code := none }
def k2c1 : Code := { maxStack := 4, maxLocals := 4, code := prog_7_method_2_code, exceptionTable := #[], attributes := #[] }
def k2m1 : Method := { name := "holds", desc := "(IIII)Z", sig := { parameters := [.int, .int, .int, .int], returnType := some .boolean }, accessFlags := 9, code := some k2c1 }
/-- com/example/aircord/aircord/check/Condition -/
def k2 : Class := { plain "com/example/aircord/aircord/check/Condition" (some 0) with
  accessFlags := 49
  interfaces := #[]
  cf := some (fileOf pool2 9 #[] #[{ accessFlags := 2, nameIndex := 5, descriptorIndex := 6, attributes := #[] }, { accessFlags := 9, nameIndex := 13, descriptorIndex := 14, attributes := #[] }] 49 2 #[] #[])
  fields := #[]
  methods := #[k2m0, k2m1]
  instanceTypes := #[]
  staticTypes := #[]
  resolved := Array.replicate 18 none
  statics := none }

def pool3 : Array CpInfo := pool [(1, u "java/lang/Cloneable"), (0, .class_ 1), (0, u "java/lang/Object"), (0, .class_ 3)] 3

/-- java/lang/Cloneable -/
def k3 : Class := { plain "java/lang/Cloneable" (some 0) with
  accessFlags := 1537
  interfaces := #[]
  cf := some (fileOf pool3 2 #[] #[] 1537 4 #[] #[])
  fields := #[]
  methods := #[]
  instanceTypes := #[]
  staticTypes := #[]
  resolved := Array.replicate 8 none
  statics := none }

def pool4 : Array CpInfo := pool [(1, u "java/io/Serializable"), (0, .class_ 1), (0, u "java/lang/Object"), (0, .class_ 3)] 3

/-- java/io/Serializable -/
def k4 : Class := { plain "java/io/Serializable" (some 0) with
  accessFlags := 1537
  interfaces := #[]
  cf := some (fileOf pool4 2 #[] #[] 1537 4 #[] #[])
  fields := #[]
  methods := #[]
  instanceTypes := #[]
  staticTypes := #[]
  resolved := Array.replicate 8 none
  statics := none }

/-- the primitive byte -/
def k5 : Class := { plain "byte" none with kind := .primitive 'B', accessFlags := 0x411 }
/-- [B -/
def k6 : Class := { plain "[B" (some 0) with kind := .array 5 .byte, interfaces := #[3, 4], accessFlags := 1041 }

/-- the primitive int -/
def k7 : Class := { plain "int" none with kind := .primitive 'I', accessFlags := 0x411 }
/-- [I -/
def k8 : Class := { plain "[I" (some 0) with kind := .array 7 .int, interfaces := #[3, 4], accessFlags := 1041 }

def heap : Heap := #[]
def classes : Array Class := #[k0, k1, k2, k3, k4, k5, k6, k7, k8]
def interned : List (Array UInt16 × Addr) := []
def slotsUsed : Nat := 0
def theMethod : MethodId := ⟨1, 1⟩
def args0 : Array Value := #[.int 70, .int 3, .int 1]
def aboutOver (below : List Frame) : State where
  vm := { classes := classes, interned := interned.toArray }
  heap := heap
  slotsUsed := slotsUsed
  threads := #[{ frames := .invoking theMethod args0 :: below }]
def below0 : List Frame := [.native { method := ⟨0, 0⟩, args := #[] }]
def about1 : State := aboutOver below0
def p0 : Program := .bare "" "" ""
def e0 : Env := launch0.env 0 0 0
theorem w_frames : about1.frames = Frame.invoking theMethod args0 :: below0 := rfl
set_option maxRecDepth 65536 in
theorem w_args : argsFit about1.vm theMethod args0 = true := by decide +kernel
set_option maxRecDepth 65536 in
theorem w_heap : heapFits about1 = true := by decide +kernel
set_option maxRecDepth 65536 in
theorem w_runnable : about1.curStatus? = some .runnable := by decide +kernel
set_option maxRecDepth 65536 in
theorem w_alone : about1.alone = true := by decide +kernel
set_option maxRecDepth 65536 in
theorem w_named : about1.methodNamed? x = some theMethod := by decide +kernel
set_option maxRecDepth 65536 in
theorem w_hears : about1.hears theMethod below0 = true := by decide +kernel
set_option maxRecDepth 65536 in
theorem w_ripe : about1.ripe theMethod args0 below0 = true := by decide +kernel
theorem w_running : about1.status = .running := rfl
set_option maxRecDepth 65536 in
theorem w_room : about1.hasRoom e0.platform room_1 = true :=
  launch0.hasRoom_least _ room_1 (by decide +kernel) (by decide +kernel) (by decide +kernel) (by decide +kernel) (by decide +kernel) (by decide +kernel)
theorem allAtoms_all (ts : List Jvm.Cond) (a : Array Jvm.Value) (st : Jvm.State) : (allAtoms ts).before a st = ts.all (fun c => c.before a st) := by
  induction ts with
  | nil => rfl
  | cons c t ih =>
    show (Jvm.Cond.and c (allAtoms t)).before a st = _
    rw [Jvm.Cond.before_and, ih, List.all_cons]
def words1 : List Jvm.Cond := Jvm.Cond.code x code maxLocals ret :: tables_1
/-- a 'code' word, met by the world's own term for the bytes: nothing is compared byte by byte -/
theorem code_word {y : MethodName} {bytes : ByteArray} {mx : Nat} {rt : Option FieldType} {a : Array Value} {s : State} {m : MethodId} {meth : Method} {c : Code} (h1 : s.methodNamed? y = some m) (h2 : s.vm.method? m = some meth) (h3 : meth.code = some c) (h4 : c.code = bytes)
    (h5 : (c.maxLocals == mx && c.exceptionTable.isEmpty && decide (c.maxStack ≤ mostOperands) && decide (meth.sig.returnType = rt) && !meth.locks && decide (parseMethodDescriptor y.desc = some meth.sig)) = true) : (Jvm.Cond.code y bytes mx rt).before a s = true := by
  simp only [Bool.and_eq_true, beq_iff_eq, Bool.not_eq_true', decide_eq_true_eq] at h5
  obtain ⟨⟨⟨⟨⟨g1, g2⟩, g3⟩, g4⟩, g5⟩, g6⟩ := h5
  simp [Cond.before, Cond.holds, Cond.value, h1, h2, h3, h4, g1, g2, g3, g4, g5, g6]
def isCode : Jvm.Cond → Bool
  | .code _ _ _ _ => true
  | _ => false
theorem all_split {L : List Jvm.Cond} {P : Jvm.Cond → Bool} (h1 : L.all (fun c => isCode c || P c) = true) (h2 : ∀ c ∈ L.filter isCode, P c = true) : L.all P = true := by
  refine List.all_eq_true.mpr fun c hc => ?_
  have h := List.all_eq_true.mp h1 c hc
  rcases Bool.eq_false_or_eq_true (isCode c) with hi | hi
  · exact h2 c (List.mem_filter.mpr ⟨hc, hi⟩)
  · simpa [hi] using h
set_option maxRecDepth 65536 in
theorem w_c0 : (Jvm.Cond.code x code maxLocals ret).before args0 about1 = true := code_word (m := ⟨1, 1⟩) (meth := k1m1) (c := k1c1) (by decide +kernel) rfl rfl rfl (by decide +kernel)
set_option maxRecDepth 65536 in
theorem w_c1 : (Jvm.Cond.code ({ cls := "com/example/aircord/aircord/check/Condition", name := "holds", desc := "(IIII)Z" } : Jvm.MethodName) prog_7_method_2_code (4 : Nat) (Option.some Jvm.ClassFile.FieldType.boolean)).before args0 about1 = true := code_word (m := ⟨2, 1⟩) (meth := k2m1) (c := k2c1) (by decide +kernel) rfl rfl rfl (by decide +kernel)
def codes1 : List Jvm.Cond := [Jvm.Cond.code x code maxLocals ret, Jvm.Cond.code ({ cls := "com/example/aircord/aircord/check/Condition", name := "holds", desc := "(IIII)Z" } : Jvm.MethodName) prog_7_method_2_code (4 : Nat) (Option.some Jvm.ClassFile.FieldType.boolean)]
set_option maxRecDepth 65536 in
theorem codes_eq : words1.filter isCode = codes1 := rfl
theorem w_codes : ∀ c ∈ words1.filter isCode, c.before args0 about1 = true := by
  rw [codes_eq]
  intro c hc
  simp only [codes1, List.mem_cons, List.not_mem_nil, or_false] at hc
  rcases hc with rfl | rfl
  · exact w_c0
  · exact w_c1
set_option maxRecDepth 65536 in
theorem w_t1 : words1.all (fun c => isCode c || c.before args0 about1) = true := by decide +kernel
theorem w_tables : (allAtoms (Jvm.Cond.code x code maxLocals ret :: tables_1)).before args0 about1 = true := by
  rw [allAtoms_all]
  show words1.all (fun c => c.before args0 about1) = true
  refine all_split ?_ w_codes
  rw [w_t1]
set_option maxRecDepth 65536 in
theorem w_case : (Jvm.Cond.and given_1 narrow_1).before args0 about1 = true := by decide +kernel
theorem w_applies : (headSpec (Jvm.Cond.code x code maxLocals ret :: tables_1) room_1).applies x e0.platform about1 = true :=
  (Spec.applies_iff w_frames).mpr ⟨w_running, w_runnable, w_alone, w_named, w_hears, w_ripe, w_room, w_tables⟩
theorem atStart : AtStart classFile x code maxLocals ret World_1 tables_1 room_1 Calls_1 rest_1 Pre_1 launch0 p0 e0 about1 theMethod args0 below0 :=
  ⟨lists_1, trivial, launch0.admits_env _ _ _, launch0.least_env, fairChoices_fair.cas, fairChoices_fair.clock, w_frames, w_args, w_heap, w_applies, trivial, trivial, w_case⟩
end start1
theorem witness_1 : WitnessClaimed_1 := ⟨start1.p0, start1.e0, start1.about1, start1.theMethod, start1.args0, start1.below0, start1.atStart⟩
end Jvm.Pilot.@@N@@
