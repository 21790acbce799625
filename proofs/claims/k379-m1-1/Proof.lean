import JvmDerived
import JvmDerived.Pilot.@@N@@Statement
import JvmDerived.Pilot.@@N@@Code
set_option linter.unusedVariables false
set_option linter.unusedSimpArgs false
namespace Jvm.RoadKit
open Sem ClassFile Op Lib Jvm.Stand Jvm.Free Jvm.LawKit
section New
variable {p : Program} {l : Launch} {e : Env} {R : Room} {s : State} {m : MethodId} {args : Array Value} {below : List Frame} {meth : Method} {c : Code} {T : State} {locs : List Loc} {cells slots : Nat}
theorem retI (X : Stand p l e R s m args below meth c T locs cells slots) (hx : p.tables.exec = Jvm.exec) {pc : Nat} {Ls : Array Slot} {z : Int32} {rest : List Value} (hret : meth.sig.returnType = some .int) (hd : decode c.code pc = .ok (.ireturn, 1)) {fs : List Frame}
    (hl : ∀ (f : JFrame) (acts : List Action), f.method = m → f.locked = none → f.entered = [] → (doReturn e (T.setTop f) acts (some (.int z))).1 = T.setFrames fs) : Steps p.tables e below (T.setTop (mkF m pc Ls (.int z :: rest))) (T.setFrames fs) := by
  have hm' : T.vm.method? m = some meth := X.method'
  have hn : narrow .int (.int z) = .int z := rfl
  show Steps p.tables e below (T.setTop { method := m, pc := pc, locals := Ls, stack := _ :: rest, locked := none }) _
  jvm_step X.here [X.here.top, hx, hd, hm', hret, hn]
  first | (intro acts; rw [hl _ acts rfl rfl rfl]) | rw [hl _ _ rfl rfl rfl]
  exact Steps.refl _
end New
end Jvm.RoadKit
namespace Jvm.Pilot.@@N@@
open Jvm Jvm.ClassFile Sem Op Lib Jvm.Free Jvm.Stand Jvm.LawKit Jvm.RoadKit Bundle Jvm.Pilot.@@N@@.Jvm.D
theorem own_irem (x y : Int32) : x - (x / y) * y = x % y := by
  apply Int32.toInt_inj.mp
  have a := (x % y).toInt_lt; have b := (x % y).le_toInt
  rw [Int32.toInt_mod] at a b ⊢
  rw [Int32.toInt_sub, Int32.toInt_mul, Int32.toInt_div, Int.bmod_mul_bmod, Int.sub_bmod_bmod, Int.mul_comm, ← Int.tmod_def]
  exact Int.bmod_eq_of_le (by omega) (by omega)
theorem own_ns_exa {Z : State} {h : Heap} {a : Addr} {C : String} (F : Exa Z h a C) : ∀ c : Cell, h[a]? = some c → c.vm.isStatics = false := fun c hc => by
  obtain ⟨cell, k, h1, -, -, h4, -⟩ := F
  cases h1.symm.trans hc; exact h4
theorem own_sta_keep {Z : State} {h h' : Heap} {C n d : String} {v : Value} {ws : List Addr} (F : Sta Z h C n d v) (K : Keep h h' ws) (q : ∀ x ∈ ws, ∀ c : Cell, h[x]? = some c → c.vm.isStatics = false) : Sta Z h' C n d v := by
  obtain ⟨cf, i, k, f, st, cell, h1, h2, h3, h4, h5, h6, h7⟩ := F
  refine ⟨cf, i, k, f, st, cell, h1, h2, h3, h4, K.2.1 st cell h5 (fun hm => ?_), h6, h7⟩
  rw [q st hm cell h5] at h6; cases h6
def own_draw (p q : Int32) : Int32 := if q = 0 then p &&& 1073741823 else p &&& 3
def own_of (e t a : Int32) (sR sA sK sE sT : Addr) : Addr := if ¬ e + t < 2 then sR else if ¬ a < 1 ∧ e + t = 1 then sA else if e = 1 then sE else if t = 1 then sT else sK
theorem own_drawB (p q : Int32) : ¬ own_draw p q < 0 ∧ own_draw p q < 1073741824 := by
  have h1 := c_mask p 1073741823 30 (by decide) (by decide)
  have h2 := c_mask p 3 2 (by decide) (by decide)
  have z0 : (0 : Int32).toInt = 0 := by decide
  have z1 : (1073741824 : Int32).toInt = 1073741824 := by decide
  rw [Int32.lt_iff_toInt_lt, Int32.lt_iff_toInt_lt, z0, z1]
  unfold own_draw
  split
  · rw [h1]; omega
  · rw [h2]; omega
theorem own_sum {e t : Int32} (he : ¬ e < 0 ∧ e < 1073741824) (ht : ¬ t < 0 ∧ t < 1073741824) : (e + t).toInt = e.toInt + t.toInt ∧ 0 ≤ e.toInt ∧ 0 ≤ t.toInt := by
  have z0 : (0 : Int32).toInt = 0 := by decide
  have z1 : (1073741824 : Int32).toInt = 1073741824 := by decide
  rw [Int32.lt_iff_toInt_lt, Int32.lt_iff_toInt_lt, z0, z1] at he ht
  have h := c_iadd e t
  have r := rng32 (e + t)
  omega
theorem own_ofR {e t a : Int32} {sR sA sK sE sT : Addr} (h : ¬ e + t < 2) : own_of e t a sR sA sK sE sT = sR := by simp [own_of, h]
theorem own_ofA {e t a : Int32} {sR sA sK sE sT : Addr} (he : ¬ e < 0 ∧ e < 1073741824) (ht : ¬ t < 0 ∧ t < 1073741824) (h0 : ¬ e + t = 0) (h1 : e + t < 2) (h2 : ¬ a < 1) : own_of e t a sR sA sK sE sT = sA := by
  obtain ⟨s1, s2, s3⟩ := own_sum he ht
  have h3 : e + t = 1 := by
    rw [← Int32.toInt_inj] at h0 ⊢
    rw [Int32.lt_iff_toInt_lt] at h1
    have z0 : (0 : Int32).toInt = 0 := by decide
    have z1 : (1 : Int32).toInt = 1 := by decide
    have z2 : (2 : Int32).toInt = 2 := by decide
    rw [z0] at h0; rw [z2] at h1; rw [z1]; omega
  have h4 : ¬ (¬ e + t < 2) := by simp [h1]
  unfold own_of
  rw [if_neg h4, if_pos ⟨h2, h3⟩]
theorem own_ofE {e t a : Int32} {sR sA sK sE sT : Addr} (h1 : e + t < 2) (h2 : a < 1) (h3 : e = 1) : own_of e t a sR sA sK sE sT = sE := by
  unfold own_of
  rw [if_neg (by simp [h1]), if_neg (by simp [h2]), if_pos h3]
theorem own_ofT {e t a : Int32} {sR sA sK sE sT : Addr} (he : ¬ e < 0 ∧ e < 1073741824) (ht : ¬ t < 0 ∧ t < 1073741824) (h0 : ¬ e + t = 0) (h1 : e + t < 2) (h2 : a < 1) (h3 : ¬ e = 1) : own_of e t a sR sA sK sE sT = sT := by
  obtain ⟨s1, s2, s3⟩ := own_sum he ht
  have h5 : t = 1 := by
    rw [← Int32.toInt_inj] at h0 h3 ⊢
    rw [Int32.lt_iff_toInt_lt] at h1
    have z0 : (0 : Int32).toInt = 0 := by decide
    have z1 : (1 : Int32).toInt = 1 := by decide
    have z2 : (2 : Int32).toInt = 2 := by decide
    rw [z0] at h0; rw [z2] at h1; rw [z1] at h3 ⊢; omega
  unfold own_of
  rw [if_neg (by simp [h1]), if_neg (by simp [h2]), if_neg h3, if_pos h5]
theorem own_ofK {e t a : Int32} {sR sA sK sE sT : Addr} (he : ¬ e < 0 ∧ e < 1073741824) (ht : ¬ t < 0 ∧ t < 1073741824) (h0 : e + t = 0) : own_of e t a sR sA sK sE sT = sK := by
  obtain ⟨s1, s2, s3⟩ := own_sum he ht
  have z0 : (0 : Int32).toInt = 0 := by decide
  have z1 : (1 : Int32).toInt = 1 := by decide
  have hz : (e + t).toInt = 0 := by rw [h0]; exact z0
  have h4 : ¬ e = 1 := by rw [← Int32.toInt_inj, z1]; omega
  have h5 : ¬ t = 1 := by rw [← Int32.toInt_inj, z1]; omega
  have h6 : ¬ (¬ e + t < 2) := by rw [h0]; decide
  have h7 : ¬ (e + t = 1) := by rw [h0]; decide
  unfold own_of
  rw [if_neg h6, if_neg (fun q => h7 q.2), if_neg h4, if_neg h5]
theorem ddr_0 : decode method_2_code 0 = .ok (.iload_n 1, 1) := by decide +kernel
theorem ddr_1 : decode method_2_code 1 = .ok (.ifCond .eq 9, 3) := by decide +kernel
theorem ddr_4 : decode method_2_code 4 = .ok (.iload_n 0, 1) := by decide +kernel
theorem ddr_5 : decode method_2_code 5 = .ok (.iconst 3, 1) := by decide +kernel
theorem ddr_6 : decode method_2_code 6 = .ok (.iand, 1) := by decide +kernel
theorem ddr_7 : decode method_2_code 7 = .ok (.goto 7, 3) := by decide +kernel
theorem ddr_10 : decode method_2_code 10 = .ok (.iload_n 0, 1) := by decide +kernel
theorem ddr_11 : decode method_2_code 11 = .ok (.ldc 7, 2) := by decide +kernel
theorem ddr_13 : decode method_2_code 13 = .ok (.iand, 1) := by decide +kernel
theorem ddr_14 : decode method_2_code 14 = .ok (.ireturn, 1) := by decide +kernel
theorem pn_dr : plainName "com/example/ogma/ogma/interpret/QueryClassOfPinLaw" = true := by first | (simp [plainName, overriddenIn]; done) | decide +kernel
theorem ef_dr (m : MethodId) (p1 : Int32) (p2 : Int32) : entryFrame m #[(.int p1), (.int p2)] 2 = (mkF m 0 #[.val (.int p1), .val (.int p2)] []) := by first | (simp [entryFrame, mkF, argsToLocals, Value.category]; done) | rfl
def Q_dr (Z : State) (p1 p2 : Int32) (h0 : Heap) (n0 : Nat) (v : Option Value) (h : Heap) (L : List Loc) : Prop := v = some (.int (own_draw p1 p2)) ∧ Fr n0 L ∧ h = h0
set_option maxRecDepth 65536 in
set_option maxHeartbeats 40000000 in
theorem rm_dr (l : Launch) (Z : State) (a0 : Array Value) (hw : ∀ d ∈ tables_1, d.before a0 Z = true) (ws : List Jvm.Cond) (p1 p2 : Int32) (h0 : Heap) (n0 : Nat) (Z0 : n0 ≤ h0.size)  :
    MetFree l (⟨"com/example/ogma/ogma/interpret/QueryClassOfPinLaw", "draw", "(IZ)I"⟩ : MethodName) (head1 (Jvm.Cond.code (⟨"com/example/ogma/ogma/interpret/QueryClassOfPinLaw", "draw", "(IZ)I"⟩ : MethodName) method_2_code 2 (some .int) :: ws) ({ frames := 0, cells := 0, slots := 0, locals := 0 } : Room)) (fun a U => a = #[(.int p1), (.int p2)] ∧ Z.Warmed39 U.vm ∧ U.heap = h0) (fun _ _ _ _ _ => True) (fun _ U o U' => ∃ v L, o = .returned v ∧ Q_dr Z p1 p2 h0 n0 v U'.heap L ∧ FrameEnd U o U' L ({ frames := 0, cells := 0, slots := 0, locals := 0 } : Room).cells ({ frames := 0, cells := 0, slots := 0, locals := 0 } : Room).slots) := by
  refine MetFree.of_bodySF (plainFor_of_name pn_dr) hisR ?_
  intro p e s m args below meth c s₁ Bd hml0 hP hK
  obtain ⟨rfl, hZ, hh⟩ := hP
  have hx := Bd.exec
  have hby := Bd.bytes
  have hml : c.maxLocals = 2 := hml0
  have hown : s.vm.findClass "com/example/ogma/ogma/interpret/QueryClassOfPinLaw" = some m.cls := findClass_of_methodNamed Bd.named
  have hnm := (name_of_methodNamed Bd.named Bd.method).1
  have X0 : Stand p l e ({ frames := 0, cells := 0, slots := 0, locals := 0 } : Room) s m #[(.int p1), (.int p2)] below meth c s₁ [] 0 0 := Stand.of_body Bd
  have e0 : s₁.heap = h0 := by rw [← hh, Bd.state]; rfl
  have N0 := Fr.nil n0
  have pre0 : ∀ t, Steps p.tables e below (s₁.setTop (mkF m 0 #[.val (.int p1), .val (.int p2)] [])) t → Steps p.tables e below (s₁.setTop (entryFrame m #[(.int p1), (.int p2)] 2)) t := fun t k => castTop (ef_dr m p1 p2) k
  have pre2 : ∀ t, Steps p.tables e below (s₁.setTop (mkF m 1 #[.val (.int p1), .val (.int p2)] [(.int p2)])) t → Steps p.tables e below (s₁.setTop (entryFrame m #[(.int p1), (.int p2)] 2)) t := fun t k => pre0 t (by
    show Steps p.tables e below (s₁.setTop (mkF m 0 #[.val (.int p1), .val (.int p2)] [])) _
    refine XS.iloadN X0.here hx rfl (hb hby ddr_0) rfl ?_
    show Steps p.tables e below (s₁.setTop (mkF m 1 #[.val (.int p1), .val (.int p2)] [(.int p2)])) _
    exact k)
  by_cases hc : p2 = 0
  · skip
    have hf : own_draw p1 p2 = p1 &&& 1073741823 := if_pos hc
    have pre3 : ∀ t, Steps p.tables e below (s₁.setTop (mkF m 14 #[.val (.int p1), .val (.int p2)] [(.int (p1 &&& (1073741823 : Int32)))])) t → Steps p.tables e below (s₁.setTop (entryFrame m #[(.int p1), (.int p2)] 2)) t := fun t k => pre2 t (by
      show Steps p.tables e below (s₁.setTop (mkF m 1 #[.val (.int p1), .val (.int p2)] [(.int p2)])) _
      refine XS.ifYes X0.here hx rfl (pc0 := 1) (pc' := 10) rfl (hb hby ddr_1) rfl (XT.i0_eq_t hc) (by decide) (by decide) ?_
      show Steps p.tables e below (s₁.setTop (mkF m 10 #[.val (.int p1), .val (.int p2)] [])) _
      refine XS.iloadN X0.here hx rfl (hb hby ddr_10) rfl ?_
      show Steps p.tables e below (s₁.setTop (mkF m 11 #[.val (.int p1), .val (.int p2)] [(.int p1)])) _
      refine X0.ldcI hx hown (mvT hZ (hw _ (List.mem_of_getElem? (i := 4) rfl))) rfl (hb hby ddr_11) ?_
      show Steps p.tables e below (s₁.setTop (mkF m 13 #[.val (.int p1), .val (.int p2)] [(.int (1073741823 : Int32)), (.int p1)])) _
      refine XS.iand X0.here hx rfl (hb hby ddr_13) rfl ?_
      show Steps p.tables e below (s₁.setTop (mkF m 14 #[.val (.int p1), .val (.int p2)] [(.int (p1 &&& (1073741823 : Int32)))])) _
      exact k)
    obtain ⟨fs, hr, hrun, hended, hW, hsame⟩ := X0.leave (v := some (.int (p1 &&& (1073741823 : Int32)))) (fun h => by rw [Bd.returns] at h; cases h)
    refine ⟨_, _, pre3 _ ?_, hrun, hended, _, _, rfl, ?_, ⟨_, rfl⟩, hW, hsame.mono (by decide) (by decide)⟩
    · exact retI X0 hx Bd.returns (hb hby ddr_14) hr
    · show Q_dr Z p1 p2 h0 n0 _ s₁.heap _
      unfold Q_dr; rw [hf]
      rw [e0]
      exact ⟨rfl, N0, rfl⟩
  · skip
    have hf : own_draw p1 p2 = p1 &&& 3 := if_neg hc
    have pre3 : ∀ t, Steps p.tables e below (s₁.setTop (mkF m 14 #[.val (.int p1), .val (.int p2)] [(.int (p1 &&& (3 : Int32)))])) t → Steps p.tables e below (s₁.setTop (entryFrame m #[(.int p1), (.int p2)] 2)) t := fun t k => pre2 t (by
      show Steps p.tables e below (s₁.setTop (mkF m 1 #[.val (.int p1), .val (.int p2)] [(.int p2)])) _
      refine XS.ifNo X0.here hx rfl (hb hby ddr_1) rfl (XT.i0_eq_f hc) ?_
      show Steps p.tables e below (s₁.setTop (mkF m 4 #[.val (.int p1), .val (.int p2)] [])) _
      refine XS.iloadN X0.here hx rfl (hb hby ddr_4) rfl ?_
      show Steps p.tables e below (s₁.setTop (mkF m 5 #[.val (.int p1), .val (.int p2)] [(.int p1)])) _
      refine XS.iconst X0.here hx rfl (hb hby ddr_5) ?_
      show Steps p.tables e below (s₁.setTop (mkF m 6 #[.val (.int p1), .val (.int p2)] [(.int (3 : Int32)), (.int p1)])) _
      refine XS.iand X0.here hx rfl (hb hby ddr_6) rfl ?_
      show Steps p.tables e below (s₁.setTop (mkF m 7 #[.val (.int p1), .val (.int p2)] [(.int (p1 &&& (3 : Int32)))])) _
      refine XS.goto X0.here hx rfl (pc0 := 7) (pc' := 14) rfl (hb hby ddr_7) (by decide) (by decide) ?_
      show Steps p.tables e below (s₁.setTop (mkF m 14 #[.val (.int p1), .val (.int p2)] [(.int (p1 &&& (3 : Int32)))])) _
      exact k)
    obtain ⟨fs, hr, hrun, hended, hW, hsame⟩ := X0.leave (v := some (.int (p1 &&& (3 : Int32)))) (fun h => by rw [Bd.returns] at h; cases h)
    refine ⟨_, _, pre3 _ ?_, hrun, hended, _, _, rfl, ?_, ⟨_, rfl⟩, hW, hsame.mono (by decide) (by decide)⟩
    · exact retI X0 hx Bd.returns (hb hby ddr_14) hr
    · show Q_dr Z p1 p2 h0 n0 _ s₁.heap _
      unfold Q_dr; rw [hf]
      rw [e0]
      exact ⟨rfl, N0, rfl⟩
theorem dof_0 : decode prog_25_method_5_code 0 = .ok (.iload_n 0, 1) := by decide +kernel
theorem dof_1 : decode prog_25_method_5_code 1 = .ok (.iload_n 1, 1) := by decide +kernel
theorem dof_2 : decode prog_25_method_5_code 2 = .ok (.iadd, 1) := by decide +kernel
theorem dof_3 : decode prog_25_method_5_code 3 = .ok (.iconst 2, 1) := by decide +kernel
theorem dof_4 : decode prog_25_method_5_code 4 = .ok (.if_icmp .lt 10, 3) := by decide +kernel
theorem dof_7 : decode prog_25_method_5_code 7 = .ok (.getstatic 3, 3) := by decide +kernel
theorem dof_10 : decode prog_25_method_5_code 10 = .ok (.astore_n 3, 1) := by decide +kernel
theorem dof_11 : decode prog_25_method_5_code 11 = .ok (.goto 50, 3) := by decide +kernel
theorem dof_14 : decode prog_25_method_5_code 14 = .ok (.iload_n 2, 1) := by decide +kernel
theorem dof_15 : decode prog_25_method_5_code 15 = .ok (.iconst 1, 1) := by decide +kernel
theorem dof_16 : decode prog_25_method_5_code 16 = .ok (.if_icmp .lt 17, 3) := by decide +kernel
theorem dof_19 : decode prog_25_method_5_code 19 = .ok (.iload_n 0, 1) := by decide +kernel
theorem dof_20 : decode prog_25_method_5_code 20 = .ok (.iload_n 1, 1) := by decide +kernel
theorem dof_21 : decode prog_25_method_5_code 21 = .ok (.iadd, 1) := by decide +kernel
theorem dof_22 : decode prog_25_method_5_code 22 = .ok (.iconst 1, 1) := by decide +kernel
theorem dof_23 : decode prog_25_method_5_code 23 = .ok (.if_icmp .ne 10, 3) := by decide +kernel
theorem dof_26 : decode prog_25_method_5_code 26 = .ok (.getstatic 7, 3) := by decide +kernel
theorem dof_29 : decode prog_25_method_5_code 29 = .ok (.astore_n 3, 1) := by decide +kernel
theorem dof_30 : decode prog_25_method_5_code 30 = .ok (.goto 31, 3) := by decide +kernel
theorem dof_33 : decode prog_25_method_5_code 33 = .ok (.iload_n 0, 1) := by decide +kernel
theorem dof_34 : decode prog_25_method_5_code 34 = .ok (.iconst 1, 1) := by decide +kernel
theorem dof_35 : decode prog_25_method_5_code 35 = .ok (.if_icmp .ne 10, 3) := by decide +kernel
theorem dof_38 : decode prog_25_method_5_code 38 = .ok (.getstatic 10, 3) := by decide +kernel
theorem dof_41 : decode prog_25_method_5_code 41 = .ok (.astore_n 3, 1) := by decide +kernel
theorem dof_42 : decode prog_25_method_5_code 42 = .ok (.goto 19, 3) := by decide +kernel
theorem dof_45 : decode prog_25_method_5_code 45 = .ok (.iload_n 1, 1) := by decide +kernel
theorem dof_46 : decode prog_25_method_5_code 46 = .ok (.iconst 1, 1) := by decide +kernel
theorem dof_47 : decode prog_25_method_5_code 47 = .ok (.if_icmp .ne 10, 3) := by decide +kernel
theorem dof_50 : decode prog_25_method_5_code 50 = .ok (.getstatic 13, 3) := by decide +kernel
theorem dof_53 : decode prog_25_method_5_code 53 = .ok (.astore_n 3, 1) := by decide +kernel
theorem dof_54 : decode prog_25_method_5_code 54 = .ok (.goto 7, 3) := by decide +kernel
theorem dof_57 : decode prog_25_method_5_code 57 = .ok (.getstatic 16, 3) := by decide +kernel
theorem dof_60 : decode prog_25_method_5_code 60 = .ok (.astore_n 3, 1) := by decide +kernel
theorem dof_61 : decode prog_25_method_5_code 61 = .ok (.aload_n 3, 1) := by decide +kernel
theorem dof_62 : decode prog_25_method_5_code 62 = .ok (.areturn, 1) := by decide +kernel
theorem pn_of : plainName "com/example/ogma/ogma/interpret/QueryClass" = true := by first | (simp [plainName, overriddenIn]; done) | decide +kernel
theorem ef_of (m : MethodId) (p1 : Int32) (p2 : Int32) (p3 : Int32) : entryFrame m #[(.int p1), (.int p2), (.int p3)] 4 = (mkF m 0 #[.val (.int p1), .val (.int p2), .val (.int p3), .unset] []) := by first | (simp [entryFrame, mkF, argsToLocals, Value.category]; done) | rfl
def Q_of (Z : State) (p1 p2 p3 : Int32) (sR sA sK sE sT : Addr) (h0 : Heap) (n0 : Nat) (v : Option Value) (h : Heap) (L : List Loc) : Prop := v = some (.ref (own_of p1 p2 p3 sR sA sK sE sT)) ∧ Fr n0 L ∧ h = h0
set_option maxRecDepth 65536 in
set_option maxHeartbeats 40000000 in
theorem rm_of (l : Launch) (Z : State) (a0 : Array Value) (hw : ∀ d ∈ tables_1, d.before a0 Z = true) (ws : List Jvm.Cond) (p1 p2 p3 : Int32) (sR sA sK sE sT : Addr) (h0 : Heap) (n0 : Nat) (Z0 : n0 ≤ h0.size) (SRELATION : Sta Z h0 "com/example/ogma/ogma/interpret/QueryClass" "RELATION" "Lcom/example/ogma/ogma/interpret/QueryClass;" (.ref sR)) (SATTRIBUTE : Sta Z h0 "com/example/ogma/ogma/interpret/QueryClass" "ATTRIBUTE" "Lcom/example/ogma/ogma/interpret/QueryClass;" (.ref sA)) (SKEYWORD : Sta Z h0 "com/example/ogma/ogma/interpret/QueryClass" "KEYWORD" "Lcom/example/ogma/ogma/interpret/QueryClass;" (.ref sK)) (SENTITY : Sta Z h0 "com/example/ogma/ogma/interpret/QueryClass" "ENTITY" "Lcom/example/ogma/ogma/interpret/QueryClass;" (.ref sE)) (STYPE : Sta Z h0 "com/example/ogma/ogma/interpret/QueryClass" "TYPE" "Lcom/example/ogma/ogma/interpret/QueryClass;" (.ref sT)) :
    MetFree l (⟨"com/example/ogma/ogma/interpret/QueryClass", "of", "(III)Lcom/example/ogma/ogma/interpret/QueryClass;"⟩ : MethodName) (head1 (Jvm.Cond.code (⟨"com/example/ogma/ogma/interpret/QueryClass", "of", "(III)Lcom/example/ogma/ogma/interpret/QueryClass;"⟩ : MethodName) prog_25_method_5_code 4 (some (.object "com/example/ogma/ogma/interpret/QueryClass")) :: ws) ({ frames := 0, cells := 0, slots := 0, locals := 0 } : Room)) (fun a U => a = #[(.int p1), (.int p2), (.int p3)] ∧ Z.Warmed39 U.vm ∧ U.heap = h0) (fun _ _ _ _ _ => True) (fun _ U o U' => ∃ v L, o = .returned v ∧ Q_of Z p1 p2 p3 sR sA sK sE sT h0 n0 v U'.heap L ∧ FrameEnd U o U' L ({ frames := 0, cells := 0, slots := 0, locals := 0 } : Room).cells ({ frames := 0, cells := 0, slots := 0, locals := 0 } : Room).slots) := by
  refine MetFree.of_bodySF (plainFor_of_name pn_of) hisR ?_
  intro p e s m args below meth c s₁ Bd hml0 hP hK
  obtain ⟨rfl, hZ, hh⟩ := hP
  have hx := Bd.exec
  have hby := Bd.bytes
  have hml : c.maxLocals = 4 := hml0
  have hown : s.vm.findClass "com/example/ogma/ogma/interpret/QueryClass" = some m.cls := findClass_of_methodNamed Bd.named
  have hnm := (name_of_methodNamed Bd.named Bd.method).1
  have X0 : Stand p l e ({ frames := 0, cells := 0, slots := 0, locals := 0 } : Room) s m #[(.int p1), (.int p2), (.int p3)] below meth c s₁ [] 0 0 := Stand.of_body Bd
  have e0 : s₁.heap = h0 := by rw [← hh, Bd.state]; rfl
  have N0 := Fr.nil n0
  have pre0 : ∀ t, Steps p.tables e below (s₁.setTop (mkF m 0 #[.val (.int p1), .val (.int p2), .val (.int p3), .unset] [])) t → Steps p.tables e below (s₁.setTop (entryFrame m #[(.int p1), (.int p2), (.int p3)] 4)) t := fun t k => castTop (ef_of m p1 p2 p3) k
  have pre2 : ∀ t, Steps p.tables e below (s₁.setTop (mkF m 4 #[.val (.int p1), .val (.int p2), .val (.int p3), .unset] [(.int (2 : Int32)), (.int (p1 + p2))])) t → Steps p.tables e below (s₁.setTop (entryFrame m #[(.int p1), (.int p2), (.int p3)] 4)) t := fun t k => pre0 t (by
    show Steps p.tables e below (s₁.setTop (mkF m 0 #[.val (.int p1), .val (.int p2), .val (.int p3), .unset] [])) _
    refine XS.iloadN X0.here hx rfl (hb hby dof_0) rfl ?_
    show Steps p.tables e below (s₁.setTop (mkF m 1 #[.val (.int p1), .val (.int p2), .val (.int p3), .unset] [(.int p1)])) _
    refine XS.iloadN X0.here hx rfl (hb hby dof_1) rfl ?_
    show Steps p.tables e below (s₁.setTop (mkF m 2 #[.val (.int p1), .val (.int p2), .val (.int p3), .unset] [(.int p2), (.int p1)])) _
    refine XS.iadd X0.here hx rfl (hb hby dof_2) rfl ?_
    show Steps p.tables e below (s₁.setTop (mkF m 3 #[.val (.int p1), .val (.int p2), .val (.int p3), .unset] [(.int (p1 + p2))])) _
    refine XS.iconst X0.here hx rfl (hb hby dof_3) ?_
    show Steps p.tables e below (s₁.setTop (mkF m 4 #[.val (.int p1), .val (.int p2), .val (.int p3), .unset] [(.int (2 : Int32)), (.int (p1 + p2))])) _
    exact k)
  by_cases hc1 : p1 + p2 < 2
  · skip
    have pre3 : ∀ t, Steps p.tables e below (s₁.setTop (mkF m 16 #[.val (.int p1), .val (.int p2), .val (.int p3), .unset] [(.int (1 : Int32)), (.int p3)])) t → Steps p.tables e below (s₁.setTop (entryFrame m #[(.int p1), (.int p2), (.int p3)] 4)) t := fun t k => pre2 t (by
      show Steps p.tables e below (s₁.setTop (mkF m 4 #[.val (.int p1), .val (.int p2), .val (.int p3), .unset] [(.int (2 : Int32)), (.int (p1 + p2))])) _
      refine XS.icmpYes X0.here hx rfl (pc0 := 4) (pc' := 14) rfl (hb hby dof_4) rfl (XT.ii_lt_t hc1) (by decide) (by decide) ?_
      show Steps p.tables e below (s₁.setTop (mkF m 14 #[.val (.int p1), .val (.int p2), .val (.int p3), .unset] [])) _
      refine XS.iloadN X0.here hx rfl (hb hby dof_14) rfl ?_
      show Steps p.tables e below (s₁.setTop (mkF m 15 #[.val (.int p1), .val (.int p2), .val (.int p3), .unset] [(.int p3)])) _
      refine XS.iconst X0.here hx rfl (hb hby dof_15) ?_
      show Steps p.tables e below (s₁.setTop (mkF m 16 #[.val (.int p1), .val (.int p2), .val (.int p3), .unset] [(.int (1 : Int32)), (.int p3)])) _
      exact k)
    by_cases hc2 : p3 < 1
    · skip
      have pre4 : ∀ t, Steps p.tables e below (s₁.setTop (mkF m 35 #[.val (.int p1), .val (.int p2), .val (.int p3), .unset] [(.int (1 : Int32)), (.int p1)])) t → Steps p.tables e below (s₁.setTop (entryFrame m #[(.int p1), (.int p2), (.int p3)] 4)) t := fun t k => pre3 t (by
        show Steps p.tables e below (s₁.setTop (mkF m 16 #[.val (.int p1), .val (.int p2), .val (.int p3), .unset] [(.int (1 : Int32)), (.int p3)])) _
        refine XS.icmpYes X0.here hx rfl (pc0 := 16) (pc' := 33) rfl (hb hby dof_16) rfl (XT.ii_lt_t hc2) (by decide) (by decide) ?_
        show Steps p.tables e below (s₁.setTop (mkF m 33 #[.val (.int p1), .val (.int p2), .val (.int p3), .unset] [])) _
        refine XS.iloadN X0.here hx rfl (hb hby dof_33) rfl ?_
        show Steps p.tables e below (s₁.setTop (mkF m 34 #[.val (.int p1), .val (.int p2), .val (.int p3), .unset] [(.int p1)])) _
        refine XS.iconst X0.here hx rfl (hb hby dof_34) ?_
        show Steps p.tables e below (s₁.setTop (mkF m 35 #[.val (.int p1), .val (.int p2), .val (.int p3), .unset] [(.int (1 : Int32)), (.int p1)])) _
        exact k)
      by_cases hc4 : p1 = 1
      · skip
        have pre5 : ∀ t, Steps p.tables e below (s₁.setTop (mkF m 38 #[.val (.int p1), .val (.int p2), .val (.int p3), .unset] [])) t → Steps p.tables e below (s₁.setTop (entryFrame m #[(.int p1), (.int p2), (.int p3)] 4)) t := fun t k => pre4 t (by
          show Steps p.tables e below (s₁.setTop (mkF m 35 #[.val (.int p1), .val (.int p2), .val (.int p3), .unset] [(.int (1 : Int32)), (.int p1)])) _
          refine XS.icmpNo X0.here hx rfl (hb hby dof_35) rfl (XT.ii_ne_f hc4) ?_
          show Steps p.tables e below (s₁.setTop (mkF m 38 #[.val (.int p1), .val (.int p2), .val (.int p3), .unset] [])) _
          exact k)
        obtain ⟨T6, X6, e6, st6⟩ := getS2 X0 hx hZ hown (host := "") (Or.inl (hw _ (List.mem_of_getElem? (i := 20) rfl))) Via.refl e0 SENTITY (g := (mkF m 38 #[.val (.int p1), .val (.int p2), .val (.int p3), .unset] [])) rfl (hb hby dof_38)
        have hf : own_of p1 p2 p3 sR sA sK sE sT = sE := by unfold own_of; rw [if_neg (by simp [hc1]), if_neg (fun q => q.1 hc2), if_pos hc4]
        have pre7 : ∀ t, Steps p.tables e below (T6.setTop (mkF m 62 #[.val (.int p1), .val (.int p2), .val (.int p3), .val (.ref sE)] [(.ref sE)])) t → Steps p.tables e below (s₁.setTop (entryFrame m #[(.int p1), (.int p2), (.int p3)] 4)) t := fun t k => pre5 t (by
          show Steps p.tables e below (s₁.setTop (mkF m 38 #[.val (.int p1), .val (.int p2), .val (.int p3), .unset] [])) _
          refine st6 _ ?_
          show Steps p.tables e below (T6.setTop (mkF m 41 #[.val (.int p1), .val (.int p2), .val (.int p3), .unset] [(.ref sE)])) _
          refine XS.astoreN X6.here hx rfl (hb hby dof_41) rfl rfl (l' := #[.val (.int p1), .val (.int p2), .val (.int p3), .val (.ref sE)]) rfl ?_
          show Steps p.tables e below (T6.setTop (mkF m 42 #[.val (.int p1), .val (.int p2), .val (.int p3), .val (.ref sE)] [])) _
          refine XS.goto X6.here hx rfl (pc0 := 42) (pc' := 61) rfl (hb hby dof_42) (by decide) (by decide) ?_
          show Steps p.tables e below (T6.setTop (mkF m 61 #[.val (.int p1), .val (.int p2), .val (.int p3), .val (.ref sE)] [])) _
          refine XS.aloadN X6.here hx rfl (hb hby dof_61) rfl rfl ?_
          show Steps p.tables e below (T6.setTop (mkF m 62 #[.val (.int p1), .val (.int p2), .val (.int p3), .val (.ref sE)] [(.ref sE)])) _
          exact k)
        obtain ⟨fs, hr, hrun, hended, hW, hsame⟩ := X6.leave (v := some (.ref sE)) (fun h => by rw [Bd.returns] at h; cases h)
        refine ⟨_, _, pre7 _ ?_, hrun, hended, _, _, rfl, ?_, ⟨_, rfl⟩, hW, hsame.mono (by decide) (by decide)⟩
        · show Steps p.tables e below (T6.setTop (mkF m 62 #[.val (.int p1), .val (.int p2), .val (.int p3), .val (.ref sE)] [(.ref sE)])) _
          jvm_step X6.here [X6.here.top, hx, (hb hby dof_62), X6.method', Bd.returns, Value.isRef, FieldType.isReference]
          first | (intro acts; rw [hr _ acts rfl rfl rfl]) | rw [hr _ _ rfl rfl rfl]
          exact Steps.refl _
        · show Q_of Z p1 p2 p3 sR sA sK sE sT h0 n0 _ T6.heap _
          unfold Q_of; rw [hf]
          rw [e6]
          exact ⟨rfl, N0, rfl⟩
      · skip
        have pre5 : ∀ t, Steps p.tables e below (s₁.setTop (mkF m 47 #[.val (.int p1), .val (.int p2), .val (.int p3), .unset] [(.int (1 : Int32)), (.int p2)])) t → Steps p.tables e below (s₁.setTop (entryFrame m #[(.int p1), (.int p2), (.int p3)] 4)) t := fun t k => pre4 t (by
          show Steps p.tables e below (s₁.setTop (mkF m 35 #[.val (.int p1), .val (.int p2), .val (.int p3), .unset] [(.int (1 : Int32)), (.int p1)])) _
          refine XS.icmpYes X0.here hx rfl (pc0 := 35) (pc' := 45) rfl (hb hby dof_35) rfl (XT.ii_ne_t hc4) (by decide) (by decide) ?_
          show Steps p.tables e below (s₁.setTop (mkF m 45 #[.val (.int p1), .val (.int p2), .val (.int p3), .unset] [])) _
          refine XS.iloadN X0.here hx rfl (hb hby dof_45) rfl ?_
          show Steps p.tables e below (s₁.setTop (mkF m 46 #[.val (.int p1), .val (.int p2), .val (.int p3), .unset] [(.int p2)])) _
          refine XS.iconst X0.here hx rfl (hb hby dof_46) ?_
          show Steps p.tables e below (s₁.setTop (mkF m 47 #[.val (.int p1), .val (.int p2), .val (.int p3), .unset] [(.int (1 : Int32)), (.int p2)])) _
          exact k)
        by_cases hc5 : p2 = 1
        · skip
          have pre6 : ∀ t, Steps p.tables e below (s₁.setTop (mkF m 50 #[.val (.int p1), .val (.int p2), .val (.int p3), .unset] [])) t → Steps p.tables e below (s₁.setTop (entryFrame m #[(.int p1), (.int p2), (.int p3)] 4)) t := fun t k => pre5 t (by
            show Steps p.tables e below (s₁.setTop (mkF m 47 #[.val (.int p1), .val (.int p2), .val (.int p3), .unset] [(.int (1 : Int32)), (.int p2)])) _
            refine XS.icmpNo X0.here hx rfl (hb hby dof_47) rfl (XT.ii_ne_f hc5) ?_
            show Steps p.tables e below (s₁.setTop (mkF m 50 #[.val (.int p1), .val (.int p2), .val (.int p3), .unset] [])) _
            exact k)
          obtain ⟨T7, X7, e7, st7⟩ := getS2 X0 hx hZ hown (host := "") (Or.inl (hw _ (List.mem_of_getElem? (i := 23) rfl))) Via.refl e0 STYPE (g := (mkF m 50 #[.val (.int p1), .val (.int p2), .val (.int p3), .unset] [])) rfl (hb hby dof_50)
          have hf : own_of p1 p2 p3 sR sA sK sE sT = sT := by unfold own_of; rw [if_neg (by simp [hc1]), if_neg (fun q => q.1 hc2), if_neg hc4, if_pos hc5]
          have pre8 : ∀ t, Steps p.tables e below (T7.setTop (mkF m 62 #[.val (.int p1), .val (.int p2), .val (.int p3), .val (.ref sT)] [(.ref sT)])) t → Steps p.tables e below (s₁.setTop (entryFrame m #[(.int p1), (.int p2), (.int p3)] 4)) t := fun t k => pre6 t (by
            show Steps p.tables e below (s₁.setTop (mkF m 50 #[.val (.int p1), .val (.int p2), .val (.int p3), .unset] [])) _
            refine st7 _ ?_
            show Steps p.tables e below (T7.setTop (mkF m 53 #[.val (.int p1), .val (.int p2), .val (.int p3), .unset] [(.ref sT)])) _
            refine XS.astoreN X7.here hx rfl (hb hby dof_53) rfl rfl (l' := #[.val (.int p1), .val (.int p2), .val (.int p3), .val (.ref sT)]) rfl ?_
            show Steps p.tables e below (T7.setTop (mkF m 54 #[.val (.int p1), .val (.int p2), .val (.int p3), .val (.ref sT)] [])) _
            refine XS.goto X7.here hx rfl (pc0 := 54) (pc' := 61) rfl (hb hby dof_54) (by decide) (by decide) ?_
            show Steps p.tables e below (T7.setTop (mkF m 61 #[.val (.int p1), .val (.int p2), .val (.int p3), .val (.ref sT)] [])) _
            refine XS.aloadN X7.here hx rfl (hb hby dof_61) rfl rfl ?_
            show Steps p.tables e below (T7.setTop (mkF m 62 #[.val (.int p1), .val (.int p2), .val (.int p3), .val (.ref sT)] [(.ref sT)])) _
            exact k)
          obtain ⟨fs, hr, hrun, hended, hW, hsame⟩ := X7.leave (v := some (.ref sT)) (fun h => by rw [Bd.returns] at h; cases h)
          refine ⟨_, _, pre8 _ ?_, hrun, hended, _, _, rfl, ?_, ⟨_, rfl⟩, hW, hsame.mono (by decide) (by decide)⟩
          · show Steps p.tables e below (T7.setTop (mkF m 62 #[.val (.int p1), .val (.int p2), .val (.int p3), .val (.ref sT)] [(.ref sT)])) _
            jvm_step X7.here [X7.here.top, hx, (hb hby dof_62), X7.method', Bd.returns, Value.isRef, FieldType.isReference]
            first | (intro acts; rw [hr _ acts rfl rfl rfl]) | rw [hr _ _ rfl rfl rfl]
            exact Steps.refl _
          · show Q_of Z p1 p2 p3 sR sA sK sE sT h0 n0 _ T7.heap _
            unfold Q_of; rw [hf]
            rw [e7]
            exact ⟨rfl, N0, rfl⟩
        · skip
          have pre6 : ∀ t, Steps p.tables e below (s₁.setTop (mkF m 57 #[.val (.int p1), .val (.int p2), .val (.int p3), .unset] [])) t → Steps p.tables e below (s₁.setTop (entryFrame m #[(.int p1), (.int p2), (.int p3)] 4)) t := fun t k => pre5 t (by
            show Steps p.tables e below (s₁.setTop (mkF m 47 #[.val (.int p1), .val (.int p2), .val (.int p3), .unset] [(.int (1 : Int32)), (.int p2)])) _
            refine XS.icmpYes X0.here hx rfl (pc0 := 47) (pc' := 57) rfl (hb hby dof_47) rfl (XT.ii_ne_t hc5) (by decide) (by decide) ?_
            show Steps p.tables e below (s₁.setTop (mkF m 57 #[.val (.int p1), .val (.int p2), .val (.int p3), .unset] [])) _
            exact k)
          obtain ⟨T7, X7, e7, st7⟩ := getS2 X0 hx hZ hown (host := "") (Or.inl (hw _ (List.mem_of_getElem? (i := 17) rfl))) Via.refl e0 SKEYWORD (g := (mkF m 57 #[.val (.int p1), .val (.int p2), .val (.int p3), .unset] [])) rfl (hb hby dof_57)
          have hf : own_of p1 p2 p3 sR sA sK sE sT = sK := by unfold own_of; rw [if_neg (by simp [hc1]), if_neg (fun q => q.1 hc2), if_neg hc4, if_neg hc5]
          have pre8 : ∀ t, Steps p.tables e below (T7.setTop (mkF m 62 #[.val (.int p1), .val (.int p2), .val (.int p3), .val (.ref sK)] [(.ref sK)])) t → Steps p.tables e below (s₁.setTop (entryFrame m #[(.int p1), (.int p2), (.int p3)] 4)) t := fun t k => pre6 t (by
            show Steps p.tables e below (s₁.setTop (mkF m 57 #[.val (.int p1), .val (.int p2), .val (.int p3), .unset] [])) _
            refine st7 _ ?_
            show Steps p.tables e below (T7.setTop (mkF m 60 #[.val (.int p1), .val (.int p2), .val (.int p3), .unset] [(.ref sK)])) _
            refine XS.astoreN X7.here hx rfl (hb hby dof_60) rfl rfl (l' := #[.val (.int p1), .val (.int p2), .val (.int p3), .val (.ref sK)]) rfl ?_
            show Steps p.tables e below (T7.setTop (mkF m 61 #[.val (.int p1), .val (.int p2), .val (.int p3), .val (.ref sK)] [])) _
            refine XS.aloadN X7.here hx rfl (hb hby dof_61) rfl rfl ?_
            show Steps p.tables e below (T7.setTop (mkF m 62 #[.val (.int p1), .val (.int p2), .val (.int p3), .val (.ref sK)] [(.ref sK)])) _
            exact k)
          obtain ⟨fs, hr, hrun, hended, hW, hsame⟩ := X7.leave (v := some (.ref sK)) (fun h => by rw [Bd.returns] at h; cases h)
          refine ⟨_, _, pre8 _ ?_, hrun, hended, _, _, rfl, ?_, ⟨_, rfl⟩, hW, hsame.mono (by decide) (by decide)⟩
          · show Steps p.tables e below (T7.setTop (mkF m 62 #[.val (.int p1), .val (.int p2), .val (.int p3), .val (.ref sK)] [(.ref sK)])) _
            jvm_step X7.here [X7.here.top, hx, (hb hby dof_62), X7.method', Bd.returns, Value.isRef, FieldType.isReference]
            first | (intro acts; rw [hr _ acts rfl rfl rfl]) | rw [hr _ _ rfl rfl rfl]
            exact Steps.refl _
          · show Q_of Z p1 p2 p3 sR sA sK sE sT h0 n0 _ T7.heap _
            unfold Q_of; rw [hf]
            rw [e7]
            exact ⟨rfl, N0, rfl⟩
    · skip
      have pre4 : ∀ t, Steps p.tables e below (s₁.setTop (mkF m 23 #[.val (.int p1), .val (.int p2), .val (.int p3), .unset] [(.int (1 : Int32)), (.int (p1 + p2))])) t → Steps p.tables e below (s₁.setTop (entryFrame m #[(.int p1), (.int p2), (.int p3)] 4)) t := fun t k => pre3 t (by
        show Steps p.tables e below (s₁.setTop (mkF m 16 #[.val (.int p1), .val (.int p2), .val (.int p3), .unset] [(.int (1 : Int32)), (.int p3)])) _
        refine XS.icmpNo X0.here hx rfl (hb hby dof_16) rfl (XT.ii_lt_f hc2) ?_
        show Steps p.tables e below (s₁.setTop (mkF m 19 #[.val (.int p1), .val (.int p2), .val (.int p3), .unset] [])) _
        refine XS.iloadN X0.here hx rfl (hb hby dof_19) rfl ?_
        show Steps p.tables e below (s₁.setTop (mkF m 20 #[.val (.int p1), .val (.int p2), .val (.int p3), .unset] [(.int p1)])) _
        refine XS.iloadN X0.here hx rfl (hb hby dof_20) rfl ?_
        show Steps p.tables e below (s₁.setTop (mkF m 21 #[.val (.int p1), .val (.int p2), .val (.int p3), .unset] [(.int p2), (.int p1)])) _
        refine XS.iadd X0.here hx rfl (hb hby dof_21) rfl ?_
        show Steps p.tables e below (s₁.setTop (mkF m 22 #[.val (.int p1), .val (.int p2), .val (.int p3), .unset] [(.int (p1 + p2))])) _
        refine XS.iconst X0.here hx rfl (hb hby dof_22) ?_
        show Steps p.tables e below (s₁.setTop (mkF m 23 #[.val (.int p1), .val (.int p2), .val (.int p3), .unset] [(.int (1 : Int32)), (.int (p1 + p2))])) _
        exact k)
      by_cases hc3 : p1 + p2 = 1
      · skip
        have pre5 : ∀ t, Steps p.tables e below (s₁.setTop (mkF m 26 #[.val (.int p1), .val (.int p2), .val (.int p3), .unset] [])) t → Steps p.tables e below (s₁.setTop (entryFrame m #[(.int p1), (.int p2), (.int p3)] 4)) t := fun t k => pre4 t (by
          show Steps p.tables e below (s₁.setTop (mkF m 23 #[.val (.int p1), .val (.int p2), .val (.int p3), .unset] [(.int (1 : Int32)), (.int (p1 + p2))])) _
          refine XS.icmpNo X0.here hx rfl (hb hby dof_23) rfl (XT.ii_ne_f hc3) ?_
          show Steps p.tables e below (s₁.setTop (mkF m 26 #[.val (.int p1), .val (.int p2), .val (.int p3), .unset] [])) _
          exact k)
        obtain ⟨T6, X6, e6, st6⟩ := getS2 X0 hx hZ hown (host := "") (Or.inl (hw _ (List.mem_of_getElem? (i := 14) rfl))) Via.refl e0 SATTRIBUTE (g := (mkF m 26 #[.val (.int p1), .val (.int p2), .val (.int p3), .unset] [])) rfl (hb hby dof_26)
        have hf : own_of p1 p2 p3 sR sA sK sE sT = sA := by unfold own_of; rw [if_neg (by simp [hc1]), if_pos ⟨hc2, hc3⟩]
        have pre7 : ∀ t, Steps p.tables e below (T6.setTop (mkF m 62 #[.val (.int p1), .val (.int p2), .val (.int p3), .val (.ref sA)] [(.ref sA)])) t → Steps p.tables e below (s₁.setTop (entryFrame m #[(.int p1), (.int p2), (.int p3)] 4)) t := fun t k => pre5 t (by
          show Steps p.tables e below (s₁.setTop (mkF m 26 #[.val (.int p1), .val (.int p2), .val (.int p3), .unset] [])) _
          refine st6 _ ?_
          show Steps p.tables e below (T6.setTop (mkF m 29 #[.val (.int p1), .val (.int p2), .val (.int p3), .unset] [(.ref sA)])) _
          refine XS.astoreN X6.here hx rfl (hb hby dof_29) rfl rfl (l' := #[.val (.int p1), .val (.int p2), .val (.int p3), .val (.ref sA)]) rfl ?_
          show Steps p.tables e below (T6.setTop (mkF m 30 #[.val (.int p1), .val (.int p2), .val (.int p3), .val (.ref sA)] [])) _
          refine XS.goto X6.here hx rfl (pc0 := 30) (pc' := 61) rfl (hb hby dof_30) (by decide) (by decide) ?_
          show Steps p.tables e below (T6.setTop (mkF m 61 #[.val (.int p1), .val (.int p2), .val (.int p3), .val (.ref sA)] [])) _
          refine XS.aloadN X6.here hx rfl (hb hby dof_61) rfl rfl ?_
          show Steps p.tables e below (T6.setTop (mkF m 62 #[.val (.int p1), .val (.int p2), .val (.int p3), .val (.ref sA)] [(.ref sA)])) _
          exact k)
        obtain ⟨fs, hr, hrun, hended, hW, hsame⟩ := X6.leave (v := some (.ref sA)) (fun h => by rw [Bd.returns] at h; cases h)
        refine ⟨_, _, pre7 _ ?_, hrun, hended, _, _, rfl, ?_, ⟨_, rfl⟩, hW, hsame.mono (by decide) (by decide)⟩
        · show Steps p.tables e below (T6.setTop (mkF m 62 #[.val (.int p1), .val (.int p2), .val (.int p3), .val (.ref sA)] [(.ref sA)])) _
          jvm_step X6.here [X6.here.top, hx, (hb hby dof_62), X6.method', Bd.returns, Value.isRef, FieldType.isReference]
          first | (intro acts; rw [hr _ acts rfl rfl rfl]) | rw [hr _ _ rfl rfl rfl]
          exact Steps.refl _
        · show Q_of Z p1 p2 p3 sR sA sK sE sT h0 n0 _ T6.heap _
          unfold Q_of; rw [hf]
          rw [e6]
          exact ⟨rfl, N0, rfl⟩
      · skip
        have pre5 : ∀ t, Steps p.tables e below (s₁.setTop (mkF m 35 #[.val (.int p1), .val (.int p2), .val (.int p3), .unset] [(.int (1 : Int32)), (.int p1)])) t → Steps p.tables e below (s₁.setTop (entryFrame m #[(.int p1), (.int p2), (.int p3)] 4)) t := fun t k => pre4 t (by
          show Steps p.tables e below (s₁.setTop (mkF m 23 #[.val (.int p1), .val (.int p2), .val (.int p3), .unset] [(.int (1 : Int32)), (.int (p1 + p2))])) _
          refine XS.icmpYes X0.here hx rfl (pc0 := 23) (pc' := 33) rfl (hb hby dof_23) rfl (XT.ii_ne_t hc3) (by decide) (by decide) ?_
          show Steps p.tables e below (s₁.setTop (mkF m 33 #[.val (.int p1), .val (.int p2), .val (.int p3), .unset] [])) _
          refine XS.iloadN X0.here hx rfl (hb hby dof_33) rfl ?_
          show Steps p.tables e below (s₁.setTop (mkF m 34 #[.val (.int p1), .val (.int p2), .val (.int p3), .unset] [(.int p1)])) _
          refine XS.iconst X0.here hx rfl (hb hby dof_34) ?_
          show Steps p.tables e below (s₁.setTop (mkF m 35 #[.val (.int p1), .val (.int p2), .val (.int p3), .unset] [(.int (1 : Int32)), (.int p1)])) _
          exact k)
        by_cases hc4 : p1 = 1
        · skip
          have pre6 : ∀ t, Steps p.tables e below (s₁.setTop (mkF m 38 #[.val (.int p1), .val (.int p2), .val (.int p3), .unset] [])) t → Steps p.tables e below (s₁.setTop (entryFrame m #[(.int p1), (.int p2), (.int p3)] 4)) t := fun t k => pre5 t (by
            show Steps p.tables e below (s₁.setTop (mkF m 35 #[.val (.int p1), .val (.int p2), .val (.int p3), .unset] [(.int (1 : Int32)), (.int p1)])) _
            refine XS.icmpNo X0.here hx rfl (hb hby dof_35) rfl (XT.ii_ne_f hc4) ?_
            show Steps p.tables e below (s₁.setTop (mkF m 38 #[.val (.int p1), .val (.int p2), .val (.int p3), .unset] [])) _
            exact k)
          obtain ⟨T7, X7, e7, st7⟩ := getS2 X0 hx hZ hown (host := "") (Or.inl (hw _ (List.mem_of_getElem? (i := 20) rfl))) Via.refl e0 SENTITY (g := (mkF m 38 #[.val (.int p1), .val (.int p2), .val (.int p3), .unset] [])) rfl (hb hby dof_38)
          have hf : own_of p1 p2 p3 sR sA sK sE sT = sE := by unfold own_of; rw [if_neg (by simp [hc1]), if_neg (fun q => hc3 q.2), if_pos hc4]
          have pre8 : ∀ t, Steps p.tables e below (T7.setTop (mkF m 62 #[.val (.int p1), .val (.int p2), .val (.int p3), .val (.ref sE)] [(.ref sE)])) t → Steps p.tables e below (s₁.setTop (entryFrame m #[(.int p1), (.int p2), (.int p3)] 4)) t := fun t k => pre6 t (by
            show Steps p.tables e below (s₁.setTop (mkF m 38 #[.val (.int p1), .val (.int p2), .val (.int p3), .unset] [])) _
            refine st7 _ ?_
            show Steps p.tables e below (T7.setTop (mkF m 41 #[.val (.int p1), .val (.int p2), .val (.int p3), .unset] [(.ref sE)])) _
            refine XS.astoreN X7.here hx rfl (hb hby dof_41) rfl rfl (l' := #[.val (.int p1), .val (.int p2), .val (.int p3), .val (.ref sE)]) rfl ?_
            show Steps p.tables e below (T7.setTop (mkF m 42 #[.val (.int p1), .val (.int p2), .val (.int p3), .val (.ref sE)] [])) _
            refine XS.goto X7.here hx rfl (pc0 := 42) (pc' := 61) rfl (hb hby dof_42) (by decide) (by decide) ?_
            show Steps p.tables e below (T7.setTop (mkF m 61 #[.val (.int p1), .val (.int p2), .val (.int p3), .val (.ref sE)] [])) _
            refine XS.aloadN X7.here hx rfl (hb hby dof_61) rfl rfl ?_
            show Steps p.tables e below (T7.setTop (mkF m 62 #[.val (.int p1), .val (.int p2), .val (.int p3), .val (.ref sE)] [(.ref sE)])) _
            exact k)
          obtain ⟨fs, hr, hrun, hended, hW, hsame⟩ := X7.leave (v := some (.ref sE)) (fun h => by rw [Bd.returns] at h; cases h)
          refine ⟨_, _, pre8 _ ?_, hrun, hended, _, _, rfl, ?_, ⟨_, rfl⟩, hW, hsame.mono (by decide) (by decide)⟩
          · show Steps p.tables e below (T7.setTop (mkF m 62 #[.val (.int p1), .val (.int p2), .val (.int p3), .val (.ref sE)] [(.ref sE)])) _
            jvm_step X7.here [X7.here.top, hx, (hb hby dof_62), X7.method', Bd.returns, Value.isRef, FieldType.isReference]
            first | (intro acts; rw [hr _ acts rfl rfl rfl]) | rw [hr _ _ rfl rfl rfl]
            exact Steps.refl _
          · show Q_of Z p1 p2 p3 sR sA sK sE sT h0 n0 _ T7.heap _
            unfold Q_of; rw [hf]
            rw [e7]
            exact ⟨rfl, N0, rfl⟩
        · skip
          have pre6 : ∀ t, Steps p.tables e below (s₁.setTop (mkF m 47 #[.val (.int p1), .val (.int p2), .val (.int p3), .unset] [(.int (1 : Int32)), (.int p2)])) t → Steps p.tables e below (s₁.setTop (entryFrame m #[(.int p1), (.int p2), (.int p3)] 4)) t := fun t k => pre5 t (by
            show Steps p.tables e below (s₁.setTop (mkF m 35 #[.val (.int p1), .val (.int p2), .val (.int p3), .unset] [(.int (1 : Int32)), (.int p1)])) _
            refine XS.icmpYes X0.here hx rfl (pc0 := 35) (pc' := 45) rfl (hb hby dof_35) rfl (XT.ii_ne_t hc4) (by decide) (by decide) ?_
            show Steps p.tables e below (s₁.setTop (mkF m 45 #[.val (.int p1), .val (.int p2), .val (.int p3), .unset] [])) _
            refine XS.iloadN X0.here hx rfl (hb hby dof_45) rfl ?_
            show Steps p.tables e below (s₁.setTop (mkF m 46 #[.val (.int p1), .val (.int p2), .val (.int p3), .unset] [(.int p2)])) _
            refine XS.iconst X0.here hx rfl (hb hby dof_46) ?_
            show Steps p.tables e below (s₁.setTop (mkF m 47 #[.val (.int p1), .val (.int p2), .val (.int p3), .unset] [(.int (1 : Int32)), (.int p2)])) _
            exact k)
          by_cases hc5 : p2 = 1
          · skip
            have pre7 : ∀ t, Steps p.tables e below (s₁.setTop (mkF m 50 #[.val (.int p1), .val (.int p2), .val (.int p3), .unset] [])) t → Steps p.tables e below (s₁.setTop (entryFrame m #[(.int p1), (.int p2), (.int p3)] 4)) t := fun t k => pre6 t (by
              show Steps p.tables e below (s₁.setTop (mkF m 47 #[.val (.int p1), .val (.int p2), .val (.int p3), .unset] [(.int (1 : Int32)), (.int p2)])) _
              refine XS.icmpNo X0.here hx rfl (hb hby dof_47) rfl (XT.ii_ne_f hc5) ?_
              show Steps p.tables e below (s₁.setTop (mkF m 50 #[.val (.int p1), .val (.int p2), .val (.int p3), .unset] [])) _
              exact k)
            obtain ⟨T8, X8, e8, st8⟩ := getS2 X0 hx hZ hown (host := "") (Or.inl (hw _ (List.mem_of_getElem? (i := 23) rfl))) Via.refl e0 STYPE (g := (mkF m 50 #[.val (.int p1), .val (.int p2), .val (.int p3), .unset] [])) rfl (hb hby dof_50)
            have hf : own_of p1 p2 p3 sR sA sK sE sT = sT := by unfold own_of; rw [if_neg (by simp [hc1]), if_neg (fun q => hc3 q.2), if_neg hc4, if_pos hc5]
            have pre9 : ∀ t, Steps p.tables e below (T8.setTop (mkF m 62 #[.val (.int p1), .val (.int p2), .val (.int p3), .val (.ref sT)] [(.ref sT)])) t → Steps p.tables e below (s₁.setTop (entryFrame m #[(.int p1), (.int p2), (.int p3)] 4)) t := fun t k => pre7 t (by
              show Steps p.tables e below (s₁.setTop (mkF m 50 #[.val (.int p1), .val (.int p2), .val (.int p3), .unset] [])) _
              refine st8 _ ?_
              show Steps p.tables e below (T8.setTop (mkF m 53 #[.val (.int p1), .val (.int p2), .val (.int p3), .unset] [(.ref sT)])) _
              refine XS.astoreN X8.here hx rfl (hb hby dof_53) rfl rfl (l' := #[.val (.int p1), .val (.int p2), .val (.int p3), .val (.ref sT)]) rfl ?_
              show Steps p.tables e below (T8.setTop (mkF m 54 #[.val (.int p1), .val (.int p2), .val (.int p3), .val (.ref sT)] [])) _
              refine XS.goto X8.here hx rfl (pc0 := 54) (pc' := 61) rfl (hb hby dof_54) (by decide) (by decide) ?_
              show Steps p.tables e below (T8.setTop (mkF m 61 #[.val (.int p1), .val (.int p2), .val (.int p3), .val (.ref sT)] [])) _
              refine XS.aloadN X8.here hx rfl (hb hby dof_61) rfl rfl ?_
              show Steps p.tables e below (T8.setTop (mkF m 62 #[.val (.int p1), .val (.int p2), .val (.int p3), .val (.ref sT)] [(.ref sT)])) _
              exact k)
            obtain ⟨fs, hr, hrun, hended, hW, hsame⟩ := X8.leave (v := some (.ref sT)) (fun h => by rw [Bd.returns] at h; cases h)
            refine ⟨_, _, pre9 _ ?_, hrun, hended, _, _, rfl, ?_, ⟨_, rfl⟩, hW, hsame.mono (by decide) (by decide)⟩
            · show Steps p.tables e below (T8.setTop (mkF m 62 #[.val (.int p1), .val (.int p2), .val (.int p3), .val (.ref sT)] [(.ref sT)])) _
              jvm_step X8.here [X8.here.top, hx, (hb hby dof_62), X8.method', Bd.returns, Value.isRef, FieldType.isReference]
              first | (intro acts; rw [hr _ acts rfl rfl rfl]) | rw [hr _ _ rfl rfl rfl]
              exact Steps.refl _
            · show Q_of Z p1 p2 p3 sR sA sK sE sT h0 n0 _ T8.heap _
              unfold Q_of; rw [hf]
              rw [e8]
              exact ⟨rfl, N0, rfl⟩
          · skip
            have pre7 : ∀ t, Steps p.tables e below (s₁.setTop (mkF m 57 #[.val (.int p1), .val (.int p2), .val (.int p3), .unset] [])) t → Steps p.tables e below (s₁.setTop (entryFrame m #[(.int p1), (.int p2), (.int p3)] 4)) t := fun t k => pre6 t (by
              show Steps p.tables e below (s₁.setTop (mkF m 47 #[.val (.int p1), .val (.int p2), .val (.int p3), .unset] [(.int (1 : Int32)), (.int p2)])) _
              refine XS.icmpYes X0.here hx rfl (pc0 := 47) (pc' := 57) rfl (hb hby dof_47) rfl (XT.ii_ne_t hc5) (by decide) (by decide) ?_
              show Steps p.tables e below (s₁.setTop (mkF m 57 #[.val (.int p1), .val (.int p2), .val (.int p3), .unset] [])) _
              exact k)
            obtain ⟨T8, X8, e8, st8⟩ := getS2 X0 hx hZ hown (host := "") (Or.inl (hw _ (List.mem_of_getElem? (i := 17) rfl))) Via.refl e0 SKEYWORD (g := (mkF m 57 #[.val (.int p1), .val (.int p2), .val (.int p3), .unset] [])) rfl (hb hby dof_57)
            have hf : own_of p1 p2 p3 sR sA sK sE sT = sK := by unfold own_of; rw [if_neg (by simp [hc1]), if_neg (fun q => hc3 q.2), if_neg hc4, if_neg hc5]
            have pre9 : ∀ t, Steps p.tables e below (T8.setTop (mkF m 62 #[.val (.int p1), .val (.int p2), .val (.int p3), .val (.ref sK)] [(.ref sK)])) t → Steps p.tables e below (s₁.setTop (entryFrame m #[(.int p1), (.int p2), (.int p3)] 4)) t := fun t k => pre7 t (by
              show Steps p.tables e below (s₁.setTop (mkF m 57 #[.val (.int p1), .val (.int p2), .val (.int p3), .unset] [])) _
              refine st8 _ ?_
              show Steps p.tables e below (T8.setTop (mkF m 60 #[.val (.int p1), .val (.int p2), .val (.int p3), .unset] [(.ref sK)])) _
              refine XS.astoreN X8.here hx rfl (hb hby dof_60) rfl rfl (l' := #[.val (.int p1), .val (.int p2), .val (.int p3), .val (.ref sK)]) rfl ?_
              show Steps p.tables e below (T8.setTop (mkF m 61 #[.val (.int p1), .val (.int p2), .val (.int p3), .val (.ref sK)] [])) _
              refine XS.aloadN X8.here hx rfl (hb hby dof_61) rfl rfl ?_
              show Steps p.tables e below (T8.setTop (mkF m 62 #[.val (.int p1), .val (.int p2), .val (.int p3), .val (.ref sK)] [(.ref sK)])) _
              exact k)
            obtain ⟨fs, hr, hrun, hended, hW, hsame⟩ := X8.leave (v := some (.ref sK)) (fun h => by rw [Bd.returns] at h; cases h)
            refine ⟨_, _, pre9 _ ?_, hrun, hended, _, _, rfl, ?_, ⟨_, rfl⟩, hW, hsame.mono (by decide) (by decide)⟩
            · show Steps p.tables e below (T8.setTop (mkF m 62 #[.val (.int p1), .val (.int p2), .val (.int p3), .val (.ref sK)] [(.ref sK)])) _
              jvm_step X8.here [X8.here.top, hx, (hb hby dof_62), X8.method', Bd.returns, Value.isRef, FieldType.isReference]
              first | (intro acts; rw [hr _ acts rfl rfl rfl]) | rw [hr _ _ rfl rfl rfl]
              exact Steps.refl _
            · show Q_of Z p1 p2 p3 sR sA sK sE sT h0 n0 _ T8.heap _
              unfold Q_of; rw [hf]
              rw [e8]
              exact ⟨rfl, N0, rfl⟩
  · skip
    have pre3 : ∀ t, Steps p.tables e below (s₁.setTop (mkF m 7 #[.val (.int p1), .val (.int p2), .val (.int p3), .unset] [])) t → Steps p.tables e below (s₁.setTop (entryFrame m #[(.int p1), (.int p2), (.int p3)] 4)) t := fun t k => pre2 t (by
      show Steps p.tables e below (s₁.setTop (mkF m 4 #[.val (.int p1), .val (.int p2), .val (.int p3), .unset] [(.int (2 : Int32)), (.int (p1 + p2))])) _
      refine XS.icmpNo X0.here hx rfl (hb hby dof_4) rfl (XT.ii_lt_f hc1) ?_
      show Steps p.tables e below (s₁.setTop (mkF m 7 #[.val (.int p1), .val (.int p2), .val (.int p3), .unset] [])) _
      exact k)
    obtain ⟨T4, X4, e4, st4⟩ := getS2 X0 hx hZ hown (host := "") (Or.inl (hw _ (List.mem_of_getElem? (i := 11) rfl))) Via.refl e0 SRELATION (g := (mkF m 7 #[.val (.int p1), .val (.int p2), .val (.int p3), .unset] [])) rfl (hb hby dof_7)
    have hf : own_of p1 p2 p3 sR sA sK sE sT = sR := by unfold own_of; rw [if_pos hc1]
    have pre5 : ∀ t, Steps p.tables e below (T4.setTop (mkF m 62 #[.val (.int p1), .val (.int p2), .val (.int p3), .val (.ref sR)] [(.ref sR)])) t → Steps p.tables e below (s₁.setTop (entryFrame m #[(.int p1), (.int p2), (.int p3)] 4)) t := fun t k => pre3 t (by
      show Steps p.tables e below (s₁.setTop (mkF m 7 #[.val (.int p1), .val (.int p2), .val (.int p3), .unset] [])) _
      refine st4 _ ?_
      show Steps p.tables e below (T4.setTop (mkF m 10 #[.val (.int p1), .val (.int p2), .val (.int p3), .unset] [(.ref sR)])) _
      refine XS.astoreN X4.here hx rfl (hb hby dof_10) rfl rfl (l' := #[.val (.int p1), .val (.int p2), .val (.int p3), .val (.ref sR)]) rfl ?_
      show Steps p.tables e below (T4.setTop (mkF m 11 #[.val (.int p1), .val (.int p2), .val (.int p3), .val (.ref sR)] [])) _
      refine XS.goto X4.here hx rfl (pc0 := 11) (pc' := 61) rfl (hb hby dof_11) (by decide) (by decide) ?_
      show Steps p.tables e below (T4.setTop (mkF m 61 #[.val (.int p1), .val (.int p2), .val (.int p3), .val (.ref sR)] [])) _
      refine XS.aloadN X4.here hx rfl (hb hby dof_61) rfl rfl ?_
      show Steps p.tables e below (T4.setTop (mkF m 62 #[.val (.int p1), .val (.int p2), .val (.int p3), .val (.ref sR)] [(.ref sR)])) _
      exact k)
    obtain ⟨fs, hr, hrun, hended, hW, hsame⟩ := X4.leave (v := some (.ref sR)) (fun h => by rw [Bd.returns] at h; cases h)
    refine ⟨_, _, pre5 _ ?_, hrun, hended, _, _, rfl, ?_, ⟨_, rfl⟩, hW, hsame.mono (by decide) (by decide)⟩
    · show Steps p.tables e below (T4.setTop (mkF m 62 #[.val (.int p1), .val (.int p2), .val (.int p3), .val (.ref sR)] [(.ref sR)])) _
      jvm_step X4.here [X4.here.top, hx, (hb hby dof_62), X4.method', Bd.returns, Value.isRef, FieldType.isReference]
      first | (intro acts; rw [hr _ acts rfl rfl rfl]) | rw [hr _ _ rfl rfl rfl]
      exact Steps.refl _
    · show Q_of Z p1 p2 p3 sR sA sK sE sT h0 n0 _ T4.heap _
      unfold Q_of; rw [hf]
      rw [e4]
      exact ⟨rfl, N0, rfl⟩
theorem pd__IZ_I : parseMethodDescriptor "(IZ)I" = some ⟨[.int, .boolean], some .int⟩ := by decide +kernel
theorem pd__III_Lcom_example_ogma_ogma_interpret_QueryClass_ : parseMethodDescriptor "(III)Lcom/example/ogma/ogma/interpret/QueryClass;" = some ⟨[.int, .int, .int], some (.object "com/example/ogma/ogma/interpret/QueryClass")⟩ := by decide +kernel
theorem pn_0 : plainName "com/example/ogma/ogma/interpret/QueryClassOfPinLaw" = true := by first | (simp [plainName, overriddenIn]; done) | decide +kernel
theorem ef_0 (m : MethodId) (p1 : Int32) (p2 : Int32) (p3 : Int32) (p4 : Int32) : entryFrame m #[(.int p1), (.int p2), (.int p3), (.int p4)] maxLocals = (mkF m 0 #[.val (.int p1), .val (.int p2), .val (.int p3), .val (.int p4), .unset, .unset, .unset, .unset, .unset] []) := by first | (simp [entryFrame, mkF, argsToLocals, Value.category, maxLocals]; done) | rfl
def Q_0 (Z : State) (p1 p2 p3 p4 : Int32) (sR sA sK sE sT : Addr) (h0 : Heap) (n0 : Nat) (v : Option Value) (h : Heap) (L : List Loc) : Prop := v = some (.int 1) ∧ Fr n0 L
set_option maxRecDepth 65536 in
set_option maxHeartbeats 40000000 in
theorem rm_0 (l : Launch) (Z : State) (a0 : Array Value) (hw : ∀ d ∈ tables_1, d.before a0 Z = true) (ws : List Jvm.Cond) (p1 p2 p3 p4 : Int32) (sR sA sK sE sT : Addr) (h0 : Heap) (n0 : Nat) (Z0 : n0 ≤ h0.size) (SRELATION : Sta Z h0 "com/example/ogma/ogma/interpret/QueryClass" "RELATION" "Lcom/example/ogma/ogma/interpret/QueryClass;" (.ref sR)) (SATTRIBUTE : Sta Z h0 "com/example/ogma/ogma/interpret/QueryClass" "ATTRIBUTE" "Lcom/example/ogma/ogma/interpret/QueryClass;" (.ref sA)) (SKEYWORD : Sta Z h0 "com/example/ogma/ogma/interpret/QueryClass" "KEYWORD" "Lcom/example/ogma/ogma/interpret/QueryClass;" (.ref sK)) (SENTITY : Sta Z h0 "com/example/ogma/ogma/interpret/QueryClass" "ENTITY" "Lcom/example/ogma/ogma/interpret/QueryClass;" (.ref sE)) (STYPE : Sta Z h0 "com/example/ogma/ogma/interpret/QueryClass" "TYPE" "Lcom/example/ogma/ogma/interpret/QueryClass;" (.ref sT)) :
    MetFree l x (head1 (Jvm.Cond.code x code maxLocals ret :: ws) room_1) (fun a U => a = #[(.int p1), (.int p2), (.int p3), (.int p4)] ∧ Z.Warmed39 U.vm ∧ U.heap = h0) (fun _ _ _ _ _ => True) (fun _ U o U' => ∃ v L, o = .returned v ∧ Q_0 Z p1 p2 p3 p4 sR sA sK sE sT h0 n0 v U'.heap L ∧ FrameEnd U o U' L room_1.cells room_1.slots) := by
  refine MetFree.of_bodySF (plainFor_of_name pn_0) hisR ?_
  intro p e s m args below meth c s₁ Bd hml0 hP hK
  obtain ⟨rfl, hZ, hh⟩ := hP
  have hx := Bd.exec
  have hby := Bd.bytes
  have hml : c.maxLocals = 9 := hml0
  have hown : s.vm.findClass "com/example/ogma/ogma/interpret/QueryClassOfPinLaw" = some m.cls := findClass_of_methodNamed Bd.named
  have hnm := (name_of_methodNamed Bd.named Bd.method).1
  have X0 : Stand p l e room_1 s m #[(.int p1), (.int p2), (.int p3), (.int p4)] below meth c s₁ [] 0 0 := Stand.of_body Bd
  have e0 : s₁.heap = h0 := by rw [← hh, Bd.state]; rfl
  have N0 := Fr.nil n0
  have pre0 : ∀ t, Steps p.tables e below (s₁.setTop (mkF m 0 #[.val (.int p1), .val (.int p2), .val (.int p3), .val (.int p4), .unset, .unset, .unset, .unset, .unset] [])) t → Steps p.tables e below (s₁.setTop (entryFrame m #[(.int p1), (.int p2), (.int p3), (.int p4)] maxLocals)) t := fun t k => castTop (ef_0 m p1 p2 p3 p4) k
  have pre2 : ∀ t, Steps p.tables e below (s₁.setTop (mkF m 4 #[.val (.int p1), .val (.int p2), .val (.int p3), .val (.int p4), .unset, .unset, .unset, .unset, .unset] [(.int (p4 &&& (1 : Int32))), (.int p1)])) t → Steps p.tables e below (s₁.setTop (entryFrame m #[(.int p1), (.int p2), (.int p3), (.int p4)] maxLocals)) t := fun t k => pre0 t (by
    show Steps p.tables e below (s₁.setTop (mkF m 0 #[.val (.int p1), .val (.int p2), .val (.int p3), .val (.int p4), .unset, .unset, .unset, .unset, .unset] [])) _
    refine XS.iloadN X0.here hx rfl (hb hby at_0) rfl ?_
    show Steps p.tables e below (s₁.setTop (mkF m 1 #[.val (.int p1), .val (.int p2), .val (.int p3), .val (.int p4), .unset, .unset, .unset, .unset, .unset] [(.int p1)])) _
    refine XS.iloadN X0.here hx rfl (hb hby at_1) rfl ?_
    show Steps p.tables e below (s₁.setTop (mkF m 2 #[.val (.int p1), .val (.int p2), .val (.int p3), .val (.int p4), .unset, .unset, .unset, .unset, .unset] [(.int p4), (.int p1)])) _
    refine XS.iconst X0.here hx rfl (hb hby at_2) ?_
    show Steps p.tables e below (s₁.setTop (mkF m 3 #[.val (.int p1), .val (.int p2), .val (.int p3), .val (.int p4), .unset, .unset, .unset, .unset, .unset] [(.int (1 : Int32)), (.int p4), (.int p1)])) _
    refine XS.iand X0.here hx rfl (hb hby at_3) rfl ?_
    show Steps p.tables e below (s₁.setTop (mkF m 4 #[.val (.int p1), .val (.int p2), .val (.int p3), .val (.int p4), .unset, .unset, .unset, .unset, .unset] [(.int (p4 &&& (1 : Int32))), (.int p1)])) _
    exact k)
  obtain ⟨fl0, preJ0⟩ : ∃ fl0 : Int32, ∀ t, Steps p.tables e below (s₁.setTop (mkF m 12 #[.val (.int p1), .val (.int p2), .val (.int p3), .val (.int p4), .unset, .unset, .unset, .unset, .unset] [(.int fl0), (.int p1)])) t → Steps p.tables e below (s₁.setTop (entryFrame m #[(.int p1), (.int p2), (.int p3), (.int p4)] maxLocals)) t := by
    by_cases hc : (p4 &&& (1 : Int32)) = 0
    · skip
      have pre3 : ∀ t, Steps p.tables e below (s₁.setTop (mkF m 12 #[.val (.int p1), .val (.int p2), .val (.int p3), .val (.int p4), .unset, .unset, .unset, .unset, .unset] [(.int (0 : Int32)), (.int p1)])) t → Steps p.tables e below (s₁.setTop (entryFrame m #[(.int p1), (.int p2), (.int p3), (.int p4)] maxLocals)) t := fun t k => pre2 t (by
        show Steps p.tables e below (s₁.setTop (mkF m 4 #[.val (.int p1), .val (.int p2), .val (.int p3), .val (.int p4), .unset, .unset, .unset, .unset, .unset] [(.int (p4 &&& (1 : Int32))), (.int p1)])) _
        refine XS.ifYes X0.here hx rfl (pc0 := 4) (pc' := 11) rfl (hb hby at_4) rfl (XT.i0_eq_t hc) (by decide) (by decide) ?_
        show Steps p.tables e below (s₁.setTop (mkF m 11 #[.val (.int p1), .val (.int p2), .val (.int p3), .val (.int p4), .unset, .unset, .unset, .unset, .unset] [(.int p1)])) _
        refine XS.iconst X0.here hx rfl (hb hby at_11) ?_
        show Steps p.tables e below (s₁.setTop (mkF m 12 #[.val (.int p1), .val (.int p2), .val (.int p3), .val (.int p4), .unset, .unset, .unset, .unset, .unset] [(.int (0 : Int32)), (.int p1)])) _
        exact k)
      exact ⟨_, pre3⟩
    · skip
      have pre3 : ∀ t, Steps p.tables e below (s₁.setTop (mkF m 12 #[.val (.int p1), .val (.int p2), .val (.int p3), .val (.int p4), .unset, .unset, .unset, .unset, .unset] [(.int (1 : Int32)), (.int p1)])) t → Steps p.tables e below (s₁.setTop (entryFrame m #[(.int p1), (.int p2), (.int p3), (.int p4)] maxLocals)) t := fun t k => pre2 t (by
        show Steps p.tables e below (s₁.setTop (mkF m 4 #[.val (.int p1), .val (.int p2), .val (.int p3), .val (.int p4), .unset, .unset, .unset, .unset, .unset] [(.int (p4 &&& (1 : Int32))), (.int p1)])) _
        refine XS.ifNo X0.here hx rfl (hb hby at_4) rfl (XT.i0_eq_f hc) ?_
        show Steps p.tables e below (s₁.setTop (mkF m 7 #[.val (.int p1), .val (.int p2), .val (.int p3), .val (.int p4), .unset, .unset, .unset, .unset, .unset] [(.int p1)])) _
        refine XS.iconst X0.here hx rfl (hb hby at_7) ?_
        show Steps p.tables e below (s₁.setTop (mkF m 8 #[.val (.int p1), .val (.int p2), .val (.int p3), .val (.int p4), .unset, .unset, .unset, .unset, .unset] [(.int (1 : Int32)), (.int p1)])) _
        refine XS.goto X0.here hx rfl (pc0 := 8) (pc' := 12) rfl (hb hby at_8) (by decide) (by decide) ?_
        show Steps p.tables e below (s₁.setTop (mkF m 12 #[.val (.int p1), .val (.int p2), .val (.int p3), .val (.int p4), .unset, .unset, .unset, .unset, .unset] [(.int (1 : Int32)), (.int p1)])) _
        exact k)
      exact ⟨_, pre3⟩
  obtain ⟨_, _, ⟨T3, L3, kk3, nn3⟩, -, X3, ⟨Lc3, hQ3, l3, y3, z3⟩, st3⟩ := Jvm.LawKit.callS X0 hx (y := (⟨"com/example/ogma/ogma/interpret/QueryClassOfPinLaw", "draw", "(IZ)I"⟩ : MethodName)) hown (mvT hZ (hw _ (List.mem_of_getElem? (i := 0) rfl))) (mvT hZ (hw _ (List.mem_of_getElem? (i := 1) rfl))) (mvT hZ (hw _ (List.mem_of_getElem? (i := 2) rfl))) (mvT hZ (hw _ (List.mem_of_getElem? (i := 3) rfl))) (by decide) (backOf (W := 0) (rm_dr l Z a0 hw [] p1 fl0 h0 n0 Z0 ) hZ (hw _ (List.mem_of_getElem? (i := 3) rfl)) (hw _ (List.mem_of_getElem? (i := 2) rfl)) (by decide) (by decide)) (g := (mkF m 12 #[.val (.int p1), .val (.int p2), .val (.int p3), .val (.int p4), .unset, .unset, .unset, .unset, .unset] [(.int fl0), (.int p1)])) rfl (by rw [hml]; rfl) (argsL := [(.int p1), (.int fl0)]) (rest := []) (lenOf pd__IZ_I rfl) rfl (by show 2 * 0 + _ ≤ _; exact Nat.le_of_eq rfl) (hb hby at_12) (fun _ _ => ⟨rfl, e0, (by decide : 0 + 0 ≤ _), (by decide : 0 + 0 ≤ _)⟩)
  dsimp only [Pt.U, Pt.locs, Pt.cells, Pt.slots] at X3 l3 y3 z3 st3 hQ3
  subst l3 y3 z3
  obtain ⟨rfl, N3q, eq3⟩ := hQ3
  have N3 := Fr.app N0 N3q
  obtain ⟨eE, heE, beE⟩ : ∃ z : Int32, own_draw p1 fl0 = z ∧ ¬ z < 0 ∧ z < 1073741824 := ⟨_, rfl, own_drawB _ _⟩
  have pre4 : ∀ t, Steps p.tables e below (T3.setTop (mkF m 21 #[.val (.int p1), .val (.int p2), .val (.int p3), .val (.int p4), .val (.int eE), .unset, .unset, .unset, .unset] [(.int (p4 &&& (2 : Int32))), (.int p2)])) t → Steps p.tables e below (s₁.setTop (entryFrame m #[(.int p1), (.int p2), (.int p3), (.int p4)] maxLocals)) t := fun t k => preJ0 t (by
    show Steps p.tables e below (s₁.setTop (mkF m 12 #[.val (.int p1), .val (.int p2), .val (.int p3), .val (.int p4), .unset, .unset, .unset, .unset, .unset] [(.int fl0), (.int p1)])) _
    refine st3 _ ?_
    show Steps p.tables e below (T3.setTop (mkF m 15 #[.val (.int p1), .val (.int p2), .val (.int p3), .val (.int p4), .unset, .unset, .unset, .unset, .unset] [(.int (own_draw p1 fl0))])) _
    rw [heE]
    show Steps p.tables e below (T3.setTop (mkF m 15 #[.val (.int p1), .val (.int p2), .val (.int p3), .val (.int p4), .unset, .unset, .unset, .unset, .unset] [(.int eE)])) _
    refine XS.istore X3.here hx rfl (hb hby at_15) rfl (l' := #[.val (.int p1), .val (.int p2), .val (.int p3), .val (.int p4), .val (.int eE), .unset, .unset, .unset, .unset]) rfl ?_
    show Steps p.tables e below (T3.setTop (mkF m 17 #[.val (.int p1), .val (.int p2), .val (.int p3), .val (.int p4), .val (.int eE), .unset, .unset, .unset, .unset] [])) _
    refine XS.iloadN X3.here hx rfl (hb hby at_17) rfl ?_
    show Steps p.tables e below (T3.setTop (mkF m 18 #[.val (.int p1), .val (.int p2), .val (.int p3), .val (.int p4), .val (.int eE), .unset, .unset, .unset, .unset] [(.int p2)])) _
    refine XS.iloadN X3.here hx rfl (hb hby at_18) rfl ?_
    show Steps p.tables e below (T3.setTop (mkF m 19 #[.val (.int p1), .val (.int p2), .val (.int p3), .val (.int p4), .val (.int eE), .unset, .unset, .unset, .unset] [(.int p4), (.int p2)])) _
    refine XS.iconst X3.here hx rfl (hb hby at_19) ?_
    show Steps p.tables e below (T3.setTop (mkF m 20 #[.val (.int p1), .val (.int p2), .val (.int p3), .val (.int p4), .val (.int eE), .unset, .unset, .unset, .unset] [(.int (2 : Int32)), (.int p4), (.int p2)])) _
    refine XS.iand X3.here hx rfl (hb hby at_20) rfl ?_
    show Steps p.tables e below (T3.setTop (mkF m 21 #[.val (.int p1), .val (.int p2), .val (.int p3), .val (.int p4), .val (.int eE), .unset, .unset, .unset, .unset] [(.int (p4 &&& (2 : Int32))), (.int p2)])) _
    exact k)
  obtain ⟨fl1, preJ1⟩ : ∃ fl1 : Int32, ∀ t, Steps p.tables e below (T3.setTop (mkF m 29 #[.val (.int p1), .val (.int p2), .val (.int p3), .val (.int p4), .val (.int eE), .unset, .unset, .unset, .unset] [(.int fl1), (.int p2)])) t → Steps p.tables e below (s₁.setTop (entryFrame m #[(.int p1), (.int p2), (.int p3), (.int p4)] maxLocals)) t := by
    by_cases hc : (p4 &&& (2 : Int32)) = 0
    · skip
      have pre5 : ∀ t, Steps p.tables e below (T3.setTop (mkF m 29 #[.val (.int p1), .val (.int p2), .val (.int p3), .val (.int p4), .val (.int eE), .unset, .unset, .unset, .unset] [(.int (0 : Int32)), (.int p2)])) t → Steps p.tables e below (s₁.setTop (entryFrame m #[(.int p1), (.int p2), (.int p3), (.int p4)] maxLocals)) t := fun t k => pre4 t (by
        show Steps p.tables e below (T3.setTop (mkF m 21 #[.val (.int p1), .val (.int p2), .val (.int p3), .val (.int p4), .val (.int eE), .unset, .unset, .unset, .unset] [(.int (p4 &&& (2 : Int32))), (.int p2)])) _
        refine XS.ifYes X3.here hx rfl (pc0 := 21) (pc' := 28) rfl (hb hby at_21) rfl (XT.i0_eq_t hc) (by decide) (by decide) ?_
        show Steps p.tables e below (T3.setTop (mkF m 28 #[.val (.int p1), .val (.int p2), .val (.int p3), .val (.int p4), .val (.int eE), .unset, .unset, .unset, .unset] [(.int p2)])) _
        refine XS.iconst X3.here hx rfl (hb hby at_28) ?_
        show Steps p.tables e below (T3.setTop (mkF m 29 #[.val (.int p1), .val (.int p2), .val (.int p3), .val (.int p4), .val (.int eE), .unset, .unset, .unset, .unset] [(.int (0 : Int32)), (.int p2)])) _
        exact k)
      exact ⟨_, pre5⟩
    · skip
      have pre5 : ∀ t, Steps p.tables e below (T3.setTop (mkF m 29 #[.val (.int p1), .val (.int p2), .val (.int p3), .val (.int p4), .val (.int eE), .unset, .unset, .unset, .unset] [(.int (1 : Int32)), (.int p2)])) t → Steps p.tables e below (s₁.setTop (entryFrame m #[(.int p1), (.int p2), (.int p3), (.int p4)] maxLocals)) t := fun t k => pre4 t (by
        show Steps p.tables e below (T3.setTop (mkF m 21 #[.val (.int p1), .val (.int p2), .val (.int p3), .val (.int p4), .val (.int eE), .unset, .unset, .unset, .unset] [(.int (p4 &&& (2 : Int32))), (.int p2)])) _
        refine XS.ifNo X3.here hx rfl (hb hby at_21) rfl (XT.i0_eq_f hc) ?_
        show Steps p.tables e below (T3.setTop (mkF m 24 #[.val (.int p1), .val (.int p2), .val (.int p3), .val (.int p4), .val (.int eE), .unset, .unset, .unset, .unset] [(.int p2)])) _
        refine XS.iconst X3.here hx rfl (hb hby at_24) ?_
        show Steps p.tables e below (T3.setTop (mkF m 25 #[.val (.int p1), .val (.int p2), .val (.int p3), .val (.int p4), .val (.int eE), .unset, .unset, .unset, .unset] [(.int (1 : Int32)), (.int p2)])) _
        refine XS.goto X3.here hx rfl (pc0 := 25) (pc' := 29) rfl (hb hby at_25) (by decide) (by decide) ?_
        show Steps p.tables e below (T3.setTop (mkF m 29 #[.val (.int p1), .val (.int p2), .val (.int p3), .val (.int p4), .val (.int eE), .unset, .unset, .unset, .unset] [(.int (1 : Int32)), (.int p2)])) _
        exact k)
      exact ⟨_, pre5⟩
  obtain ⟨_, _, ⟨T5, L5, kk5, nn5⟩, -, X5, ⟨Lc5, hQ5, l5, y5, z5⟩, st5⟩ := Jvm.LawKit.callS X3 hx (y := (⟨"com/example/ogma/ogma/interpret/QueryClassOfPinLaw", "draw", "(IZ)I"⟩ : MethodName)) hown (mvT hZ (hw _ (List.mem_of_getElem? (i := 0) rfl))) (mvT hZ (hw _ (List.mem_of_getElem? (i := 1) rfl))) (mvT hZ (hw _ (List.mem_of_getElem? (i := 2) rfl))) (mvT hZ (hw _ (List.mem_of_getElem? (i := 3) rfl))) (by decide) (backOf (W := 0) (rm_dr l Z a0 hw [] p2 fl1 h0 n0 Z0 ) hZ (hw _ (List.mem_of_getElem? (i := 3) rfl)) (hw _ (List.mem_of_getElem? (i := 2) rfl)) (by decide) (by decide)) (g := (mkF m 29 #[.val (.int p1), .val (.int p2), .val (.int p3), .val (.int p4), .val (.int eE), .unset, .unset, .unset, .unset] [(.int fl1), (.int p2)])) rfl (by rw [hml]; rfl) (argsL := [(.int p2), (.int fl1)]) (rest := []) (lenOf pd__IZ_I rfl) rfl (by show 2 * 0 + _ ≤ _; exact Nat.le_of_eq rfl) (hb hby at_29) (fun _ _ => ⟨rfl, eq3, (by decide : 0 + 0 ≤ _), (by decide : 0 + 0 ≤ _)⟩)
  dsimp only [Pt.U, Pt.locs, Pt.cells, Pt.slots] at X5 l5 y5 z5 st5 hQ5
  subst l5 y5 z5
  obtain ⟨rfl, N5q, eq5⟩ := hQ5
  have N5 := Fr.app N3 N5q
  obtain ⟨tT, htT, btT⟩ : ∃ z : Int32, own_draw p2 fl1 = z ∧ ¬ z < 0 ∧ z < 1073741824 := ⟨_, rfl, own_drawB _ _⟩
  have pre6 : ∀ t, Steps p.tables e below (T5.setTop (mkF m 38 #[.val (.int p1), .val (.int p2), .val (.int p3), .val (.int p4), .val (.int eE), .val (.int tT), .unset, .unset, .unset] [(.int (p4 &&& (4 : Int32))), (.int p3)])) t → Steps p.tables e below (s₁.setTop (entryFrame m #[(.int p1), (.int p2), (.int p3), (.int p4)] maxLocals)) t := fun t k => preJ1 t (by
    show Steps p.tables e below (T3.setTop (mkF m 29 #[.val (.int p1), .val (.int p2), .val (.int p3), .val (.int p4), .val (.int eE), .unset, .unset, .unset, .unset] [(.int fl1), (.int p2)])) _
    refine st5 _ ?_
    show Steps p.tables e below (T5.setTop (mkF m 32 #[.val (.int p1), .val (.int p2), .val (.int p3), .val (.int p4), .val (.int eE), .unset, .unset, .unset, .unset] [(.int (own_draw p2 fl1))])) _
    rw [htT]
    show Steps p.tables e below (T5.setTop (mkF m 32 #[.val (.int p1), .val (.int p2), .val (.int p3), .val (.int p4), .val (.int eE), .unset, .unset, .unset, .unset] [(.int tT)])) _
    refine XS.istore X5.here hx rfl (hb hby at_32) rfl (l' := #[.val (.int p1), .val (.int p2), .val (.int p3), .val (.int p4), .val (.int eE), .val (.int tT), .unset, .unset, .unset]) rfl ?_
    show Steps p.tables e below (T5.setTop (mkF m 34 #[.val (.int p1), .val (.int p2), .val (.int p3), .val (.int p4), .val (.int eE), .val (.int tT), .unset, .unset, .unset] [])) _
    refine XS.iloadN X5.here hx rfl (hb hby at_34) rfl ?_
    show Steps p.tables e below (T5.setTop (mkF m 35 #[.val (.int p1), .val (.int p2), .val (.int p3), .val (.int p4), .val (.int eE), .val (.int tT), .unset, .unset, .unset] [(.int p3)])) _
    refine XS.iloadN X5.here hx rfl (hb hby at_35) rfl ?_
    show Steps p.tables e below (T5.setTop (mkF m 36 #[.val (.int p1), .val (.int p2), .val (.int p3), .val (.int p4), .val (.int eE), .val (.int tT), .unset, .unset, .unset] [(.int p4), (.int p3)])) _
    refine XS.iconst X5.here hx rfl (hb hby at_36) ?_
    show Steps p.tables e below (T5.setTop (mkF m 37 #[.val (.int p1), .val (.int p2), .val (.int p3), .val (.int p4), .val (.int eE), .val (.int tT), .unset, .unset, .unset] [(.int (4 : Int32)), (.int p4), (.int p3)])) _
    refine XS.iand X5.here hx rfl (hb hby at_37) rfl ?_
    show Steps p.tables e below (T5.setTop (mkF m 38 #[.val (.int p1), .val (.int p2), .val (.int p3), .val (.int p4), .val (.int eE), .val (.int tT), .unset, .unset, .unset] [(.int (p4 &&& (4 : Int32))), (.int p3)])) _
    exact k)
  obtain ⟨fl2, preJ2⟩ : ∃ fl2 : Int32, ∀ t, Steps p.tables e below (T5.setTop (mkF m 46 #[.val (.int p1), .val (.int p2), .val (.int p3), .val (.int p4), .val (.int eE), .val (.int tT), .unset, .unset, .unset] [(.int fl2), (.int p3)])) t → Steps p.tables e below (s₁.setTop (entryFrame m #[(.int p1), (.int p2), (.int p3), (.int p4)] maxLocals)) t := by
    by_cases hc : (p4 &&& (4 : Int32)) = 0
    · skip
      have pre7 : ∀ t, Steps p.tables e below (T5.setTop (mkF m 46 #[.val (.int p1), .val (.int p2), .val (.int p3), .val (.int p4), .val (.int eE), .val (.int tT), .unset, .unset, .unset] [(.int (0 : Int32)), (.int p3)])) t → Steps p.tables e below (s₁.setTop (entryFrame m #[(.int p1), (.int p2), (.int p3), (.int p4)] maxLocals)) t := fun t k => pre6 t (by
        show Steps p.tables e below (T5.setTop (mkF m 38 #[.val (.int p1), .val (.int p2), .val (.int p3), .val (.int p4), .val (.int eE), .val (.int tT), .unset, .unset, .unset] [(.int (p4 &&& (4 : Int32))), (.int p3)])) _
        refine XS.ifYes X5.here hx rfl (pc0 := 38) (pc' := 45) rfl (hb hby at_38) rfl (XT.i0_eq_t hc) (by decide) (by decide) ?_
        show Steps p.tables e below (T5.setTop (mkF m 45 #[.val (.int p1), .val (.int p2), .val (.int p3), .val (.int p4), .val (.int eE), .val (.int tT), .unset, .unset, .unset] [(.int p3)])) _
        refine XS.iconst X5.here hx rfl (hb hby at_45) ?_
        show Steps p.tables e below (T5.setTop (mkF m 46 #[.val (.int p1), .val (.int p2), .val (.int p3), .val (.int p4), .val (.int eE), .val (.int tT), .unset, .unset, .unset] [(.int (0 : Int32)), (.int p3)])) _
        exact k)
      exact ⟨_, pre7⟩
    · skip
      have pre7 : ∀ t, Steps p.tables e below (T5.setTop (mkF m 46 #[.val (.int p1), .val (.int p2), .val (.int p3), .val (.int p4), .val (.int eE), .val (.int tT), .unset, .unset, .unset] [(.int (1 : Int32)), (.int p3)])) t → Steps p.tables e below (s₁.setTop (entryFrame m #[(.int p1), (.int p2), (.int p3), (.int p4)] maxLocals)) t := fun t k => pre6 t (by
        show Steps p.tables e below (T5.setTop (mkF m 38 #[.val (.int p1), .val (.int p2), .val (.int p3), .val (.int p4), .val (.int eE), .val (.int tT), .unset, .unset, .unset] [(.int (p4 &&& (4 : Int32))), (.int p3)])) _
        refine XS.ifNo X5.here hx rfl (hb hby at_38) rfl (XT.i0_eq_f hc) ?_
        show Steps p.tables e below (T5.setTop (mkF m 41 #[.val (.int p1), .val (.int p2), .val (.int p3), .val (.int p4), .val (.int eE), .val (.int tT), .unset, .unset, .unset] [(.int p3)])) _
        refine XS.iconst X5.here hx rfl (hb hby at_41) ?_
        show Steps p.tables e below (T5.setTop (mkF m 42 #[.val (.int p1), .val (.int p2), .val (.int p3), .val (.int p4), .val (.int eE), .val (.int tT), .unset, .unset, .unset] [(.int (1 : Int32)), (.int p3)])) _
        refine XS.goto X5.here hx rfl (pc0 := 42) (pc' := 46) rfl (hb hby at_42) (by decide) (by decide) ?_
        show Steps p.tables e below (T5.setTop (mkF m 46 #[.val (.int p1), .val (.int p2), .val (.int p3), .val (.int p4), .val (.int eE), .val (.int tT), .unset, .unset, .unset] [(.int (1 : Int32)), (.int p3)])) _
        exact k)
      exact ⟨_, pre7⟩
  obtain ⟨_, _, ⟨T7, L7, kk7, nn7⟩, -, X7, ⟨Lc7, hQ7, l7, y7, z7⟩, st7⟩ := Jvm.LawKit.callS X5 hx (y := (⟨"com/example/ogma/ogma/interpret/QueryClassOfPinLaw", "draw", "(IZ)I"⟩ : MethodName)) hown (mvT hZ (hw _ (List.mem_of_getElem? (i := 0) rfl))) (mvT hZ (hw _ (List.mem_of_getElem? (i := 1) rfl))) (mvT hZ (hw _ (List.mem_of_getElem? (i := 2) rfl))) (mvT hZ (hw _ (List.mem_of_getElem? (i := 3) rfl))) (by decide) (backOf (W := 0) (rm_dr l Z a0 hw [] p3 fl2 h0 n0 Z0 ) hZ (hw _ (List.mem_of_getElem? (i := 3) rfl)) (hw _ (List.mem_of_getElem? (i := 2) rfl)) (by decide) (by decide)) (g := (mkF m 46 #[.val (.int p1), .val (.int p2), .val (.int p3), .val (.int p4), .val (.int eE), .val (.int tT), .unset, .unset, .unset] [(.int fl2), (.int p3)])) rfl (by rw [hml]; rfl) (argsL := [(.int p3), (.int fl2)]) (rest := []) (lenOf pd__IZ_I rfl) rfl (by show 2 * 0 + _ ≤ _; exact Nat.le_of_eq rfl) (hb hby at_46) (fun _ _ => ⟨rfl, eq5, (by decide : 0 + 0 ≤ _), (by decide : 0 + 0 ≤ _)⟩)
  dsimp only [Pt.U, Pt.locs, Pt.cells, Pt.slots] at X7 l7 y7 z7 st7 hQ7
  subst l7 y7 z7
  obtain ⟨rfl, N7q, eq7⟩ := hQ7
  have N7 := Fr.app N5 N7q
  obtain ⟨aA, haA, baA⟩ : ∃ z : Int32, own_draw p3 fl2 = z ∧ ¬ z < 0 ∧ z < 1073741824 := ⟨_, rfl, own_drawB _ _⟩
  have pre8 : ∀ t, Steps p.tables e below (T7.setTop (mkF m 60 #[.val (.int p1), .val (.int p2), .val (.int p3), .val (.int p4), .val (.int eE), .val (.int tT), .val (.int aA), .val (.int (eE + tT)), .unset] [(.int (eE + tT))])) t → Steps p.tables e below (s₁.setTop (entryFrame m #[(.int p1), (.int p2), (.int p3), (.int p4)] maxLocals)) t := fun t k => preJ2 t (by
    show Steps p.tables e below (T5.setTop (mkF m 46 #[.val (.int p1), .val (.int p2), .val (.int p3), .val (.int p4), .val (.int eE), .val (.int tT), .unset, .unset, .unset] [(.int fl2), (.int p3)])) _
    refine st7 _ ?_
    show Steps p.tables e below (T7.setTop (mkF m 49 #[.val (.int p1), .val (.int p2), .val (.int p3), .val (.int p4), .val (.int eE), .val (.int tT), .unset, .unset, .unset] [(.int (own_draw p3 fl2))])) _
    rw [haA]
    show Steps p.tables e below (T7.setTop (mkF m 49 #[.val (.int p1), .val (.int p2), .val (.int p3), .val (.int p4), .val (.int eE), .val (.int tT), .unset, .unset, .unset] [(.int aA)])) _
    refine XS.istore X7.here hx rfl (hb hby at_49) rfl (l' := #[.val (.int p1), .val (.int p2), .val (.int p3), .val (.int p4), .val (.int eE), .val (.int tT), .val (.int aA), .unset, .unset]) rfl ?_
    show Steps p.tables e below (T7.setTop (mkF m 51 #[.val (.int p1), .val (.int p2), .val (.int p3), .val (.int p4), .val (.int eE), .val (.int tT), .val (.int aA), .unset, .unset] [])) _
    refine XS.iload X7.here hx rfl (hb hby at_51) rfl ?_
    show Steps p.tables e below (T7.setTop (mkF m 53 #[.val (.int p1), .val (.int p2), .val (.int p3), .val (.int p4), .val (.int eE), .val (.int tT), .val (.int aA), .unset, .unset] [(.int eE)])) _
    refine XS.iload X7.here hx rfl (hb hby at_53) rfl ?_
    show Steps p.tables e below (T7.setTop (mkF m 55 #[.val (.int p1), .val (.int p2), .val (.int p3), .val (.int p4), .val (.int eE), .val (.int tT), .val (.int aA), .unset, .unset] [(.int tT), (.int eE)])) _
    refine XS.iadd X7.here hx rfl (hb hby at_55) rfl ?_
    show Steps p.tables e below (T7.setTop (mkF m 56 #[.val (.int p1), .val (.int p2), .val (.int p3), .val (.int p4), .val (.int eE), .val (.int tT), .val (.int aA), .unset, .unset] [(.int (eE + tT))])) _
    refine XS.istore X7.here hx rfl (hb hby at_56) rfl (l' := #[.val (.int p1), .val (.int p2), .val (.int p3), .val (.int p4), .val (.int eE), .val (.int tT), .val (.int aA), .val (.int (eE + tT)), .unset]) rfl ?_
    show Steps p.tables e below (T7.setTop (mkF m 58 #[.val (.int p1), .val (.int p2), .val (.int p3), .val (.int p4), .val (.int eE), .val (.int tT), .val (.int aA), .val (.int (eE + tT)), .unset] [])) _
    refine XS.iload X7.here hx rfl (hb hby at_58) rfl ?_
    show Steps p.tables e below (T7.setTop (mkF m 60 #[.val (.int p1), .val (.int p2), .val (.int p3), .val (.int p4), .val (.int eE), .val (.int tT), .val (.int aA), .val (.int (eE + tT)), .unset] [(.int (eE + tT))])) _
    exact k)
  by_cases hn0 : eE + tT = 0
  · skip
    have pre9 : ∀ t, Steps p.tables e below (T7.setTop (mkF m 63 #[.val (.int p1), .val (.int p2), .val (.int p3), .val (.int p4), .val (.int eE), .val (.int tT), .val (.int aA), .val (.int (eE + tT)), .unset] [])) t → Steps p.tables e below (s₁.setTop (entryFrame m #[(.int p1), (.int p2), (.int p3), (.int p4)] maxLocals)) t := fun t k => pre8 t (by
      show Steps p.tables e below (T7.setTop (mkF m 60 #[.val (.int p1), .val (.int p2), .val (.int p3), .val (.int p4), .val (.int eE), .val (.int tT), .val (.int aA), .val (.int (eE + tT)), .unset] [(.int (eE + tT))])) _
      refine XS.ifNo X7.here hx rfl (hb hby at_60) rfl (XT.i0_ne_f hn0) ?_
      show Steps p.tables e below (T7.setTop (mkF m 63 #[.val (.int p1), .val (.int p2), .val (.int p3), .val (.int p4), .val (.int eE), .val (.int tT), .val (.int aA), .val (.int (eE + tT)), .unset] [])) _
      exact k)
    obtain ⟨T10, X10, e10, st10⟩ := getS2 X7 hx hZ hown (host := "") (Or.inl (hw _ (List.mem_of_getElem? (i := 15) rfl))) Via.refl eq7 SKEYWORD (g := (mkF m 63 #[.val (.int p1), .val (.int p2), .val (.int p3), .val (.int p4), .val (.int eE), .val (.int tT), .val (.int aA), .val (.int (eE + tT)), .unset] [])) rfl (hb hby at_63)
    have pre11 : ∀ t, Steps p.tables e below (T10.setTop (mkF m 124 #[.val (.int p1), .val (.int p2), .val (.int p3), .val (.int p4), .val (.int eE), .val (.int tT), .val (.int aA), .val (.int (eE + tT)), .val (.ref sK)] [(.int aA), (.int tT), (.int eE)])) t → Steps p.tables e below (s₁.setTop (entryFrame m #[(.int p1), (.int p2), (.int p3), (.int p4)] maxLocals)) t := fun t k => pre9 t (by
      show Steps p.tables e below (T7.setTop (mkF m 63 #[.val (.int p1), .val (.int p2), .val (.int p3), .val (.int p4), .val (.int eE), .val (.int tT), .val (.int aA), .val (.int (eE + tT)), .unset] [])) _
      refine st10 _ ?_
      show Steps p.tables e below (T10.setTop (mkF m 66 #[.val (.int p1), .val (.int p2), .val (.int p3), .val (.int p4), .val (.int eE), .val (.int tT), .val (.int aA), .val (.int (eE + tT)), .unset] [(.ref sK)])) _
      refine XS.astore X10.here hx rfl (hb hby at_66) rfl rfl (l' := #[.val (.int p1), .val (.int p2), .val (.int p3), .val (.int p4), .val (.int eE), .val (.int tT), .val (.int aA), .val (.int (eE + tT)), .val (.ref sK)]) rfl ?_
      show Steps p.tables e below (T10.setTop (mkF m 68 #[.val (.int p1), .val (.int p2), .val (.int p3), .val (.int p4), .val (.int eE), .val (.int tT), .val (.int aA), .val (.int (eE + tT)), .val (.ref sK)] [])) _
      refine XS.goto X10.here hx rfl (pc0 := 68) (pc' := 118) rfl (hb hby at_68) (by decide) (by decide) ?_
      show Steps p.tables e below (T10.setTop (mkF m 118 #[.val (.int p1), .val (.int p2), .val (.int p3), .val (.int p4), .val (.int eE), .val (.int tT), .val (.int aA), .val (.int (eE + tT)), .val (.ref sK)] [])) _
      refine XS.iload X10.here hx rfl (hb hby at_118) rfl ?_
      show Steps p.tables e below (T10.setTop (mkF m 120 #[.val (.int p1), .val (.int p2), .val (.int p3), .val (.int p4), .val (.int eE), .val (.int tT), .val (.int aA), .val (.int (eE + tT)), .val (.ref sK)] [(.int eE)])) _
      refine XS.iload X10.here hx rfl (hb hby at_120) rfl ?_
      show Steps p.tables e below (T10.setTop (mkF m 122 #[.val (.int p1), .val (.int p2), .val (.int p3), .val (.int p4), .val (.int eE), .val (.int tT), .val (.int aA), .val (.int (eE + tT)), .val (.ref sK)] [(.int tT), (.int eE)])) _
      refine XS.iload X10.here hx rfl (hb hby at_122) rfl ?_
      show Steps p.tables e below (T10.setTop (mkF m 124 #[.val (.int p1), .val (.int p2), .val (.int p3), .val (.int p4), .val (.int eE), .val (.int tT), .val (.int aA), .val (.int (eE + tT)), .val (.ref sK)] [(.int aA), (.int tT), (.int eE)])) _
      exact k)
    obtain ⟨_, _, ⟨T12, L12, kk12, nn12⟩, -, X12, ⟨Lc12, hQ12, l12, y12, z12⟩, st12⟩ := Jvm.LawKit.callS X10 hx (y := (⟨"com/example/ogma/ogma/interpret/QueryClass", "of", "(III)Lcom/example/ogma/ogma/interpret/QueryClass;"⟩ : MethodName)) hown (mvT hZ (hw _ (List.mem_of_getElem? (i := 8) rfl))) (mvT hZ (hw _ (List.mem_of_getElem? (i := 9) rfl))) (mvT hZ (hw _ (List.mem_of_getElem? (i := 6) rfl))) (mvT hZ (hw _ (List.mem_of_getElem? (i := 10) rfl))) (by decide) (backOf (W := 0) (rm_of l Z a0 hw [] eE tT aA sR sA sK sE sT h0 n0 Z0 SRELATION SATTRIBUTE SKEYWORD SENTITY STYPE) hZ (hw _ (List.mem_of_getElem? (i := 10) rfl)) (hw _ (List.mem_of_getElem? (i := 6) rfl)) (by decide) (by decide)) (g := (mkF m 124 #[.val (.int p1), .val (.int p2), .val (.int p3), .val (.int p4), .val (.int eE), .val (.int tT), .val (.int aA), .val (.int (eE + tT)), .val (.ref sK)] [(.int aA), (.int tT), (.int eE)])) rfl (by rw [hml]; rfl) (argsL := [(.int eE), (.int tT), (.int aA)]) (rest := []) (lenOf pd__III_Lcom_example_ogma_ogma_interpret_QueryClass_ rfl) rfl (by show 2 * 0 + _ ≤ _; exact Nat.le_of_eq rfl) (hb hby at_124) (fun _ _ => ⟨rfl, e10, (by decide : 0 + 0 ≤ _), (by decide : 0 + 0 ≤ _)⟩)
    dsimp only [Pt.U, Pt.locs, Pt.cells, Pt.slots] at X12 l12 y12 z12 st12 hQ12
    subst l12 y12 z12
    obtain ⟨rfl, N12q, eq12⟩ := hQ12
    have N12 := Fr.app N7 N12q
    have pre13 : ∀ t, Steps p.tables e below (T12.setTop (mkF m 137 #[.val (.int p1), .val (.int p2), .val (.int p3), .val (.int p4), .val (.int eE), .val (.int tT), .val (.int aA), .val (.int (eE + tT)), .val (.ref sK)] [(.int (1 : Int32))])) t → Steps p.tables e below (s₁.setTop (entryFrame m #[(.int p1), (.int p2), (.int p3), (.int p4)] maxLocals)) t := fun t k => pre11 t (by
      show Steps p.tables e below (T10.setTop (mkF m 124 #[.val (.int p1), .val (.int p2), .val (.int p3), .val (.int p4), .val (.int eE), .val (.int tT), .val (.int aA), .val (.int (eE + tT)), .val (.ref sK)] [(.int aA), (.int tT), (.int eE)])) _
      refine st12 _ ?_
      show Steps p.tables e below (T12.setTop (mkF m 127 #[.val (.int p1), .val (.int p2), .val (.int p3), .val (.int p4), .val (.int eE), .val (.int tT), .val (.int aA), .val (.int (eE + tT)), .val (.ref sK)] [(.ref (own_of eE tT aA sR sA sK sE sT))])) _
      rw [own_ofK beE btT hn0]
      show Steps p.tables e below (T12.setTop (mkF m 127 #[.val (.int p1), .val (.int p2), .val (.int p3), .val (.int p4), .val (.int eE), .val (.int tT), .val (.int aA), .val (.int (eE + tT)), .val (.ref sK)] [(.ref sK)])) _
      refine XS.aload X12.here hx rfl (hb hby at_127) rfl rfl ?_
      show Steps p.tables e below (T12.setTop (mkF m 129 #[.val (.int p1), .val (.int p2), .val (.int p3), .val (.int p4), .val (.int eE), .val (.int tT), .val (.int aA), .val (.int (eE + tT)), .val (.ref sK)] [(.ref sK), (.ref sK)])) _
      refine XT.acmpNo X12.here hx rfl (hb hby at_129) rfl rfl rfl (XT.aa_ne_f rfl) ?_
      show Steps p.tables e below (T12.setTop (mkF m 132 #[.val (.int p1), .val (.int p2), .val (.int p3), .val (.int p4), .val (.int eE), .val (.int tT), .val (.int aA), .val (.int (eE + tT)), .val (.ref sK)] [])) _
      refine XS.iconst X12.here hx rfl (hb hby at_132) ?_
      show Steps p.tables e below (T12.setTop (mkF m 133 #[.val (.int p1), .val (.int p2), .val (.int p3), .val (.int p4), .val (.int eE), .val (.int tT), .val (.int aA), .val (.int (eE + tT)), .val (.ref sK)] [(.int (1 : Int32))])) _
      refine XS.goto X12.here hx rfl (pc0 := 133) (pc' := 137) rfl (hb hby at_133) (by decide) (by decide) ?_
      show Steps p.tables e below (T12.setTop (mkF m 137 #[.val (.int p1), .val (.int p2), .val (.int p3), .val (.int p4), .val (.int eE), .val (.int tT), .val (.int aA), .val (.int (eE + tT)), .val (.ref sK)] [(.int (1 : Int32))])) _
      exact k)
    obtain ⟨fs, hr, hrun, hended, hW, hsame⟩ := X12.leave (v := some (.int (1 : Int32))) (fun h => by rw [Bd.returns] at h; cases h)
    refine ⟨_, _, pre13 _ ?_, hrun, hended, _, _, rfl, ?_, ⟨_, rfl⟩, hW, hsame.mono (by decide) (by decide)⟩
    · exact retN X12 hx (t := .boolean) Bd.returns (by simp) (hb hby at_137) hr
    · show Q_0 Z p1 p2 p3 p4 sR sA sK sE sT h0 n0 _ T12.heap _
      rw [eq12]
      exact ⟨rfl, N12⟩
  · skip
    have pre9 : ∀ t, Steps p.tables e below (T7.setTop (mkF m 74 #[.val (.int p1), .val (.int p2), .val (.int p3), .val (.int p4), .val (.int eE), .val (.int tT), .val (.int aA), .val (.int (eE + tT)), .unset] [(.int (2 : Int32)), (.int (eE + tT))])) t → Steps p.tables e below (s₁.setTop (entryFrame m #[(.int p1), (.int p2), (.int p3), (.int p4)] maxLocals)) t := fun t k => pre8 t (by
      show Steps p.tables e below (T7.setTop (mkF m 60 #[.val (.int p1), .val (.int p2), .val (.int p3), .val (.int p4), .val (.int eE), .val (.int tT), .val (.int aA), .val (.int (eE + tT)), .unset] [(.int (eE + tT))])) _
      refine XS.ifYes X7.here hx rfl (pc0 := 60) (pc' := 71) rfl (hb hby at_60) rfl (XT.i0_ne_t hn0) (by decide) (by decide) ?_
      show Steps p.tables e below (T7.setTop (mkF m 71 #[.val (.int p1), .val (.int p2), .val (.int p3), .val (.int p4), .val (.int eE), .val (.int tT), .val (.int aA), .val (.int (eE + tT)), .unset] [])) _
      refine XS.iload X7.here hx rfl (hb hby at_71) rfl ?_
      show Steps p.tables e below (T7.setTop (mkF m 73 #[.val (.int p1), .val (.int p2), .val (.int p3), .val (.int p4), .val (.int eE), .val (.int tT), .val (.int aA), .val (.int (eE + tT)), .unset] [(.int (eE + tT))])) _
      refine XS.iconst X7.here hx rfl (hb hby at_73) ?_
      show Steps p.tables e below (T7.setTop (mkF m 74 #[.val (.int p1), .val (.int p2), .val (.int p3), .val (.int p4), .val (.int eE), .val (.int tT), .val (.int aA), .val (.int (eE + tT)), .unset] [(.int (2 : Int32)), (.int (eE + tT))])) _
      exact k)
    by_cases hn1 : eE + tT < 2
    · skip
      have pre10 : ∀ t, Steps p.tables e below (T7.setTop (mkF m 88 #[.val (.int p1), .val (.int p2), .val (.int p3), .val (.int p4), .val (.int eE), .val (.int tT), .val (.int aA), .val (.int (eE + tT)), .unset] [(.int (1 : Int32)), (.int aA)])) t → Steps p.tables e below (s₁.setTop (entryFrame m #[(.int p1), (.int p2), (.int p3), (.int p4)] maxLocals)) t := fun t k => pre9 t (by
        show Steps p.tables e below (T7.setTop (mkF m 74 #[.val (.int p1), .val (.int p2), .val (.int p3), .val (.int p4), .val (.int eE), .val (.int tT), .val (.int aA), .val (.int (eE + tT)), .unset] [(.int (2 : Int32)), (.int (eE + tT))])) _
        refine XS.icmpYes X7.here hx rfl (pc0 := 74) (pc' := 85) rfl (hb hby at_74) rfl (XT.ii_lt_t hn1) (by decide) (by decide) ?_
        show Steps p.tables e below (T7.setTop (mkF m 85 #[.val (.int p1), .val (.int p2), .val (.int p3), .val (.int p4), .val (.int eE), .val (.int tT), .val (.int aA), .val (.int (eE + tT)), .unset] [])) _
        refine XS.iload X7.here hx rfl (hb hby at_85) rfl ?_
        show Steps p.tables e below (T7.setTop (mkF m 87 #[.val (.int p1), .val (.int p2), .val (.int p3), .val (.int p4), .val (.int eE), .val (.int tT), .val (.int aA), .val (.int (eE + tT)), .unset] [(.int aA)])) _
        refine XS.iconst X7.here hx rfl (hb hby at_87) ?_
        show Steps p.tables e below (T7.setTop (mkF m 88 #[.val (.int p1), .val (.int p2), .val (.int p3), .val (.int p4), .val (.int eE), .val (.int tT), .val (.int aA), .val (.int (eE + tT)), .unset] [(.int (1 : Int32)), (.int aA)])) _
        exact k)
      by_cases hn2 : aA < 1
      · skip
        have pre11 : ∀ t, Steps p.tables e below (T7.setTop (mkF m 102 #[.val (.int p1), .val (.int p2), .val (.int p3), .val (.int p4), .val (.int eE), .val (.int tT), .val (.int aA), .val (.int (eE + tT)), .unset] [(.int (1 : Int32)), (.int eE)])) t → Steps p.tables e below (s₁.setTop (entryFrame m #[(.int p1), (.int p2), (.int p3), (.int p4)] maxLocals)) t := fun t k => pre10 t (by
          show Steps p.tables e below (T7.setTop (mkF m 88 #[.val (.int p1), .val (.int p2), .val (.int p3), .val (.int p4), .val (.int eE), .val (.int tT), .val (.int aA), .val (.int (eE + tT)), .unset] [(.int (1 : Int32)), (.int aA)])) _
          refine XS.icmpYes X7.here hx rfl (pc0 := 88) (pc' := 99) rfl (hb hby at_88) rfl (XT.ii_lt_t hn2) (by decide) (by decide) ?_
          show Steps p.tables e below (T7.setTop (mkF m 99 #[.val (.int p1), .val (.int p2), .val (.int p3), .val (.int p4), .val (.int eE), .val (.int tT), .val (.int aA), .val (.int (eE + tT)), .unset] [])) _
          refine XS.iload X7.here hx rfl (hb hby at_99) rfl ?_
          show Steps p.tables e below (T7.setTop (mkF m 101 #[.val (.int p1), .val (.int p2), .val (.int p3), .val (.int p4), .val (.int eE), .val (.int tT), .val (.int aA), .val (.int (eE + tT)), .unset] [(.int eE)])) _
          refine XS.iconst X7.here hx rfl (hb hby at_101) ?_
          show Steps p.tables e below (T7.setTop (mkF m 102 #[.val (.int p1), .val (.int p2), .val (.int p3), .val (.int p4), .val (.int eE), .val (.int tT), .val (.int aA), .val (.int (eE + tT)), .unset] [(.int (1 : Int32)), (.int eE)])) _
          exact k)
        by_cases hn3 : eE = 1
        · skip
          have pre12 : ∀ t, Steps p.tables e below (T7.setTop (mkF m 105 #[.val (.int p1), .val (.int p2), .val (.int p3), .val (.int p4), .val (.int eE), .val (.int tT), .val (.int aA), .val (.int (eE + tT)), .unset] [])) t → Steps p.tables e below (s₁.setTop (entryFrame m #[(.int p1), (.int p2), (.int p3), (.int p4)] maxLocals)) t := fun t k => pre11 t (by
            show Steps p.tables e below (T7.setTop (mkF m 102 #[.val (.int p1), .val (.int p2), .val (.int p3), .val (.int p4), .val (.int eE), .val (.int tT), .val (.int aA), .val (.int (eE + tT)), .unset] [(.int (1 : Int32)), (.int eE)])) _
            refine XS.icmpNo X7.here hx rfl (hb hby at_102) rfl (XT.ii_ne_f hn3) ?_
            show Steps p.tables e below (T7.setTop (mkF m 105 #[.val (.int p1), .val (.int p2), .val (.int p3), .val (.int p4), .val (.int eE), .val (.int tT), .val (.int aA), .val (.int (eE + tT)), .unset] [])) _
            exact k)
          obtain ⟨T13, X13, e13, st13⟩ := getS2 X7 hx hZ hown (host := "") (Or.inl (hw _ (List.mem_of_getElem? (i := 18) rfl))) Via.refl eq7 SENTITY (g := (mkF m 105 #[.val (.int p1), .val (.int p2), .val (.int p3), .val (.int p4), .val (.int eE), .val (.int tT), .val (.int aA), .val (.int (eE + tT)), .unset] [])) rfl (hb hby at_105)
          have pre14 : ∀ t, Steps p.tables e below (T13.setTop (mkF m 124 #[.val (.int p1), .val (.int p2), .val (.int p3), .val (.int p4), .val (.int eE), .val (.int tT), .val (.int aA), .val (.int (eE + tT)), .val (.ref sE)] [(.int aA), (.int tT), (.int eE)])) t → Steps p.tables e below (s₁.setTop (entryFrame m #[(.int p1), (.int p2), (.int p3), (.int p4)] maxLocals)) t := fun t k => pre12 t (by
            show Steps p.tables e below (T7.setTop (mkF m 105 #[.val (.int p1), .val (.int p2), .val (.int p3), .val (.int p4), .val (.int eE), .val (.int tT), .val (.int aA), .val (.int (eE + tT)), .unset] [])) _
            refine st13 _ ?_
            show Steps p.tables e below (T13.setTop (mkF m 108 #[.val (.int p1), .val (.int p2), .val (.int p3), .val (.int p4), .val (.int eE), .val (.int tT), .val (.int aA), .val (.int (eE + tT)), .unset] [(.ref sE)])) _
            refine XS.astore X13.here hx rfl (hb hby at_108) rfl rfl (l' := #[.val (.int p1), .val (.int p2), .val (.int p3), .val (.int p4), .val (.int eE), .val (.int tT), .val (.int aA), .val (.int (eE + tT)), .val (.ref sE)]) rfl ?_
            show Steps p.tables e below (T13.setTop (mkF m 110 #[.val (.int p1), .val (.int p2), .val (.int p3), .val (.int p4), .val (.int eE), .val (.int tT), .val (.int aA), .val (.int (eE + tT)), .val (.ref sE)] [])) _
            refine XS.goto X13.here hx rfl (pc0 := 110) (pc' := 118) rfl (hb hby at_110) (by decide) (by decide) ?_
            show Steps p.tables e below (T13.setTop (mkF m 118 #[.val (.int p1), .val (.int p2), .val (.int p3), .val (.int p4), .val (.int eE), .val (.int tT), .val (.int aA), .val (.int (eE + tT)), .val (.ref sE)] [])) _
            refine XS.iload X13.here hx rfl (hb hby at_118) rfl ?_
            show Steps p.tables e below (T13.setTop (mkF m 120 #[.val (.int p1), .val (.int p2), .val (.int p3), .val (.int p4), .val (.int eE), .val (.int tT), .val (.int aA), .val (.int (eE + tT)), .val (.ref sE)] [(.int eE)])) _
            refine XS.iload X13.here hx rfl (hb hby at_120) rfl ?_
            show Steps p.tables e below (T13.setTop (mkF m 122 #[.val (.int p1), .val (.int p2), .val (.int p3), .val (.int p4), .val (.int eE), .val (.int tT), .val (.int aA), .val (.int (eE + tT)), .val (.ref sE)] [(.int tT), (.int eE)])) _
            refine XS.iload X13.here hx rfl (hb hby at_122) rfl ?_
            show Steps p.tables e below (T13.setTop (mkF m 124 #[.val (.int p1), .val (.int p2), .val (.int p3), .val (.int p4), .val (.int eE), .val (.int tT), .val (.int aA), .val (.int (eE + tT)), .val (.ref sE)] [(.int aA), (.int tT), (.int eE)])) _
            exact k)
          obtain ⟨_, _, ⟨T15, L15, kk15, nn15⟩, -, X15, ⟨Lc15, hQ15, l15, y15, z15⟩, st15⟩ := Jvm.LawKit.callS X13 hx (y := (⟨"com/example/ogma/ogma/interpret/QueryClass", "of", "(III)Lcom/example/ogma/ogma/interpret/QueryClass;"⟩ : MethodName)) hown (mvT hZ (hw _ (List.mem_of_getElem? (i := 8) rfl))) (mvT hZ (hw _ (List.mem_of_getElem? (i := 9) rfl))) (mvT hZ (hw _ (List.mem_of_getElem? (i := 6) rfl))) (mvT hZ (hw _ (List.mem_of_getElem? (i := 10) rfl))) (by decide) (backOf (W := 0) (rm_of l Z a0 hw [] eE tT aA sR sA sK sE sT h0 n0 Z0 SRELATION SATTRIBUTE SKEYWORD SENTITY STYPE) hZ (hw _ (List.mem_of_getElem? (i := 10) rfl)) (hw _ (List.mem_of_getElem? (i := 6) rfl)) (by decide) (by decide)) (g := (mkF m 124 #[.val (.int p1), .val (.int p2), .val (.int p3), .val (.int p4), .val (.int eE), .val (.int tT), .val (.int aA), .val (.int (eE + tT)), .val (.ref sE)] [(.int aA), (.int tT), (.int eE)])) rfl (by rw [hml]; rfl) (argsL := [(.int eE), (.int tT), (.int aA)]) (rest := []) (lenOf pd__III_Lcom_example_ogma_ogma_interpret_QueryClass_ rfl) rfl (by show 2 * 0 + _ ≤ _; exact Nat.le_of_eq rfl) (hb hby at_124) (fun _ _ => ⟨rfl, e13, (by decide : 0 + 0 ≤ _), (by decide : 0 + 0 ≤ _)⟩)
          dsimp only [Pt.U, Pt.locs, Pt.cells, Pt.slots] at X15 l15 y15 z15 st15 hQ15
          subst l15 y15 z15
          obtain ⟨rfl, N15q, eq15⟩ := hQ15
          have N15 := Fr.app N7 N15q
          have pre16 : ∀ t, Steps p.tables e below (T15.setTop (mkF m 137 #[.val (.int p1), .val (.int p2), .val (.int p3), .val (.int p4), .val (.int eE), .val (.int tT), .val (.int aA), .val (.int (eE + tT)), .val (.ref sE)] [(.int (1 : Int32))])) t → Steps p.tables e below (s₁.setTop (entryFrame m #[(.int p1), (.int p2), (.int p3), (.int p4)] maxLocals)) t := fun t k => pre14 t (by
            show Steps p.tables e below (T13.setTop (mkF m 124 #[.val (.int p1), .val (.int p2), .val (.int p3), .val (.int p4), .val (.int eE), .val (.int tT), .val (.int aA), .val (.int (eE + tT)), .val (.ref sE)] [(.int aA), (.int tT), (.int eE)])) _
            refine st15 _ ?_
            show Steps p.tables e below (T15.setTop (mkF m 127 #[.val (.int p1), .val (.int p2), .val (.int p3), .val (.int p4), .val (.int eE), .val (.int tT), .val (.int aA), .val (.int (eE + tT)), .val (.ref sE)] [(.ref (own_of eE tT aA sR sA sK sE sT))])) _
            rw [own_ofE hn1 hn2 hn3]
            show Steps p.tables e below (T15.setTop (mkF m 127 #[.val (.int p1), .val (.int p2), .val (.int p3), .val (.int p4), .val (.int eE), .val (.int tT), .val (.int aA), .val (.int (eE + tT)), .val (.ref sE)] [(.ref sE)])) _
            refine XS.aload X15.here hx rfl (hb hby at_127) rfl rfl ?_
            show Steps p.tables e below (T15.setTop (mkF m 129 #[.val (.int p1), .val (.int p2), .val (.int p3), .val (.int p4), .val (.int eE), .val (.int tT), .val (.int aA), .val (.int (eE + tT)), .val (.ref sE)] [(.ref sE), (.ref sE)])) _
            refine XT.acmpNo X15.here hx rfl (hb hby at_129) rfl rfl rfl (XT.aa_ne_f rfl) ?_
            show Steps p.tables e below (T15.setTop (mkF m 132 #[.val (.int p1), .val (.int p2), .val (.int p3), .val (.int p4), .val (.int eE), .val (.int tT), .val (.int aA), .val (.int (eE + tT)), .val (.ref sE)] [])) _
            refine XS.iconst X15.here hx rfl (hb hby at_132) ?_
            show Steps p.tables e below (T15.setTop (mkF m 133 #[.val (.int p1), .val (.int p2), .val (.int p3), .val (.int p4), .val (.int eE), .val (.int tT), .val (.int aA), .val (.int (eE + tT)), .val (.ref sE)] [(.int (1 : Int32))])) _
            refine XS.goto X15.here hx rfl (pc0 := 133) (pc' := 137) rfl (hb hby at_133) (by decide) (by decide) ?_
            show Steps p.tables e below (T15.setTop (mkF m 137 #[.val (.int p1), .val (.int p2), .val (.int p3), .val (.int p4), .val (.int eE), .val (.int tT), .val (.int aA), .val (.int (eE + tT)), .val (.ref sE)] [(.int (1 : Int32))])) _
            exact k)
          obtain ⟨fs, hr, hrun, hended, hW, hsame⟩ := X15.leave (v := some (.int (1 : Int32))) (fun h => by rw [Bd.returns] at h; cases h)
          refine ⟨_, _, pre16 _ ?_, hrun, hended, _, _, rfl, ?_, ⟨_, rfl⟩, hW, hsame.mono (by decide) (by decide)⟩
          · exact retN X15 hx (t := .boolean) Bd.returns (by simp) (hb hby at_137) hr
          · show Q_0 Z p1 p2 p3 p4 sR sA sK sE sT h0 n0 _ T15.heap _
            rw [eq15]
            exact ⟨rfl, N15⟩
        · skip
          have pre12 : ∀ t, Steps p.tables e below (T7.setTop (mkF m 113 #[.val (.int p1), .val (.int p2), .val (.int p3), .val (.int p4), .val (.int eE), .val (.int tT), .val (.int aA), .val (.int (eE + tT)), .unset] [])) t → Steps p.tables e below (s₁.setTop (entryFrame m #[(.int p1), (.int p2), (.int p3), (.int p4)] maxLocals)) t := fun t k => pre11 t (by
            show Steps p.tables e below (T7.setTop (mkF m 102 #[.val (.int p1), .val (.int p2), .val (.int p3), .val (.int p4), .val (.int eE), .val (.int tT), .val (.int aA), .val (.int (eE + tT)), .unset] [(.int (1 : Int32)), (.int eE)])) _
            refine XS.icmpYes X7.here hx rfl (pc0 := 102) (pc' := 113) rfl (hb hby at_102) rfl (XT.ii_ne_t hn3) (by decide) (by decide) ?_
            show Steps p.tables e below (T7.setTop (mkF m 113 #[.val (.int p1), .val (.int p2), .val (.int p3), .val (.int p4), .val (.int eE), .val (.int tT), .val (.int aA), .val (.int (eE + tT)), .unset] [])) _
            exact k)
          obtain ⟨T13, X13, e13, st13⟩ := getS2 X7 hx hZ hown (host := "") (Or.inl (hw _ (List.mem_of_getElem? (i := 21) rfl))) Via.refl eq7 STYPE (g := (mkF m 113 #[.val (.int p1), .val (.int p2), .val (.int p3), .val (.int p4), .val (.int eE), .val (.int tT), .val (.int aA), .val (.int (eE + tT)), .unset] [])) rfl (hb hby at_113)
          have pre14 : ∀ t, Steps p.tables e below (T13.setTop (mkF m 124 #[.val (.int p1), .val (.int p2), .val (.int p3), .val (.int p4), .val (.int eE), .val (.int tT), .val (.int aA), .val (.int (eE + tT)), .val (.ref sT)] [(.int aA), (.int tT), (.int eE)])) t → Steps p.tables e below (s₁.setTop (entryFrame m #[(.int p1), (.int p2), (.int p3), (.int p4)] maxLocals)) t := fun t k => pre12 t (by
            show Steps p.tables e below (T7.setTop (mkF m 113 #[.val (.int p1), .val (.int p2), .val (.int p3), .val (.int p4), .val (.int eE), .val (.int tT), .val (.int aA), .val (.int (eE + tT)), .unset] [])) _
            refine st13 _ ?_
            show Steps p.tables e below (T13.setTop (mkF m 116 #[.val (.int p1), .val (.int p2), .val (.int p3), .val (.int p4), .val (.int eE), .val (.int tT), .val (.int aA), .val (.int (eE + tT)), .unset] [(.ref sT)])) _
            refine XS.astore X13.here hx rfl (hb hby at_116) rfl rfl (l' := #[.val (.int p1), .val (.int p2), .val (.int p3), .val (.int p4), .val (.int eE), .val (.int tT), .val (.int aA), .val (.int (eE + tT)), .val (.ref sT)]) rfl ?_
            show Steps p.tables e below (T13.setTop (mkF m 118 #[.val (.int p1), .val (.int p2), .val (.int p3), .val (.int p4), .val (.int eE), .val (.int tT), .val (.int aA), .val (.int (eE + tT)), .val (.ref sT)] [])) _
            refine XS.iload X13.here hx rfl (hb hby at_118) rfl ?_
            show Steps p.tables e below (T13.setTop (mkF m 120 #[.val (.int p1), .val (.int p2), .val (.int p3), .val (.int p4), .val (.int eE), .val (.int tT), .val (.int aA), .val (.int (eE + tT)), .val (.ref sT)] [(.int eE)])) _
            refine XS.iload X13.here hx rfl (hb hby at_120) rfl ?_
            show Steps p.tables e below (T13.setTop (mkF m 122 #[.val (.int p1), .val (.int p2), .val (.int p3), .val (.int p4), .val (.int eE), .val (.int tT), .val (.int aA), .val (.int (eE + tT)), .val (.ref sT)] [(.int tT), (.int eE)])) _
            refine XS.iload X13.here hx rfl (hb hby at_122) rfl ?_
            show Steps p.tables e below (T13.setTop (mkF m 124 #[.val (.int p1), .val (.int p2), .val (.int p3), .val (.int p4), .val (.int eE), .val (.int tT), .val (.int aA), .val (.int (eE + tT)), .val (.ref sT)] [(.int aA), (.int tT), (.int eE)])) _
            exact k)
          obtain ⟨_, _, ⟨T15, L15, kk15, nn15⟩, -, X15, ⟨Lc15, hQ15, l15, y15, z15⟩, st15⟩ := Jvm.LawKit.callS X13 hx (y := (⟨"com/example/ogma/ogma/interpret/QueryClass", "of", "(III)Lcom/example/ogma/ogma/interpret/QueryClass;"⟩ : MethodName)) hown (mvT hZ (hw _ (List.mem_of_getElem? (i := 8) rfl))) (mvT hZ (hw _ (List.mem_of_getElem? (i := 9) rfl))) (mvT hZ (hw _ (List.mem_of_getElem? (i := 6) rfl))) (mvT hZ (hw _ (List.mem_of_getElem? (i := 10) rfl))) (by decide) (backOf (W := 0) (rm_of l Z a0 hw [] eE tT aA sR sA sK sE sT h0 n0 Z0 SRELATION SATTRIBUTE SKEYWORD SENTITY STYPE) hZ (hw _ (List.mem_of_getElem? (i := 10) rfl)) (hw _ (List.mem_of_getElem? (i := 6) rfl)) (by decide) (by decide)) (g := (mkF m 124 #[.val (.int p1), .val (.int p2), .val (.int p3), .val (.int p4), .val (.int eE), .val (.int tT), .val (.int aA), .val (.int (eE + tT)), .val (.ref sT)] [(.int aA), (.int tT), (.int eE)])) rfl (by rw [hml]; rfl) (argsL := [(.int eE), (.int tT), (.int aA)]) (rest := []) (lenOf pd__III_Lcom_example_ogma_ogma_interpret_QueryClass_ rfl) rfl (by show 2 * 0 + _ ≤ _; exact Nat.le_of_eq rfl) (hb hby at_124) (fun _ _ => ⟨rfl, e13, (by decide : 0 + 0 ≤ _), (by decide : 0 + 0 ≤ _)⟩)
          dsimp only [Pt.U, Pt.locs, Pt.cells, Pt.slots] at X15 l15 y15 z15 st15 hQ15
          subst l15 y15 z15
          obtain ⟨rfl, N15q, eq15⟩ := hQ15
          have N15 := Fr.app N7 N15q
          have pre16 : ∀ t, Steps p.tables e below (T15.setTop (mkF m 137 #[.val (.int p1), .val (.int p2), .val (.int p3), .val (.int p4), .val (.int eE), .val (.int tT), .val (.int aA), .val (.int (eE + tT)), .val (.ref sT)] [(.int (1 : Int32))])) t → Steps p.tables e below (s₁.setTop (entryFrame m #[(.int p1), (.int p2), (.int p3), (.int p4)] maxLocals)) t := fun t k => pre14 t (by
            show Steps p.tables e below (T13.setTop (mkF m 124 #[.val (.int p1), .val (.int p2), .val (.int p3), .val (.int p4), .val (.int eE), .val (.int tT), .val (.int aA), .val (.int (eE + tT)), .val (.ref sT)] [(.int aA), (.int tT), (.int eE)])) _
            refine st15 _ ?_
            show Steps p.tables e below (T15.setTop (mkF m 127 #[.val (.int p1), .val (.int p2), .val (.int p3), .val (.int p4), .val (.int eE), .val (.int tT), .val (.int aA), .val (.int (eE + tT)), .val (.ref sT)] [(.ref (own_of eE tT aA sR sA sK sE sT))])) _
            rw [own_ofT beE btT hn0 hn1 hn2 hn3]
            show Steps p.tables e below (T15.setTop (mkF m 127 #[.val (.int p1), .val (.int p2), .val (.int p3), .val (.int p4), .val (.int eE), .val (.int tT), .val (.int aA), .val (.int (eE + tT)), .val (.ref sT)] [(.ref sT)])) _
            refine XS.aload X15.here hx rfl (hb hby at_127) rfl rfl ?_
            show Steps p.tables e below (T15.setTop (mkF m 129 #[.val (.int p1), .val (.int p2), .val (.int p3), .val (.int p4), .val (.int eE), .val (.int tT), .val (.int aA), .val (.int (eE + tT)), .val (.ref sT)] [(.ref sT), (.ref sT)])) _
            refine XT.acmpNo X15.here hx rfl (hb hby at_129) rfl rfl rfl (XT.aa_ne_f rfl) ?_
            show Steps p.tables e below (T15.setTop (mkF m 132 #[.val (.int p1), .val (.int p2), .val (.int p3), .val (.int p4), .val (.int eE), .val (.int tT), .val (.int aA), .val (.int (eE + tT)), .val (.ref sT)] [])) _
            refine XS.iconst X15.here hx rfl (hb hby at_132) ?_
            show Steps p.tables e below (T15.setTop (mkF m 133 #[.val (.int p1), .val (.int p2), .val (.int p3), .val (.int p4), .val (.int eE), .val (.int tT), .val (.int aA), .val (.int (eE + tT)), .val (.ref sT)] [(.int (1 : Int32))])) _
            refine XS.goto X15.here hx rfl (pc0 := 133) (pc' := 137) rfl (hb hby at_133) (by decide) (by decide) ?_
            show Steps p.tables e below (T15.setTop (mkF m 137 #[.val (.int p1), .val (.int p2), .val (.int p3), .val (.int p4), .val (.int eE), .val (.int tT), .val (.int aA), .val (.int (eE + tT)), .val (.ref sT)] [(.int (1 : Int32))])) _
            exact k)
          obtain ⟨fs, hr, hrun, hended, hW, hsame⟩ := X15.leave (v := some (.int (1 : Int32))) (fun h => by rw [Bd.returns] at h; cases h)
          refine ⟨_, _, pre16 _ ?_, hrun, hended, _, _, rfl, ?_, ⟨_, rfl⟩, hW, hsame.mono (by decide) (by decide)⟩
          · exact retN X15 hx (t := .boolean) Bd.returns (by simp) (hb hby at_137) hr
          · show Q_0 Z p1 p2 p3 p4 sR sA sK sE sT h0 n0 _ T15.heap _
            rw [eq15]
            exact ⟨rfl, N15⟩
      · skip
        have pre11 : ∀ t, Steps p.tables e below (T7.setTop (mkF m 91 #[.val (.int p1), .val (.int p2), .val (.int p3), .val (.int p4), .val (.int eE), .val (.int tT), .val (.int aA), .val (.int (eE + tT)), .unset] [])) t → Steps p.tables e below (s₁.setTop (entryFrame m #[(.int p1), (.int p2), (.int p3), (.int p4)] maxLocals)) t := fun t k => pre10 t (by
          show Steps p.tables e below (T7.setTop (mkF m 88 #[.val (.int p1), .val (.int p2), .val (.int p3), .val (.int p4), .val (.int eE), .val (.int tT), .val (.int aA), .val (.int (eE + tT)), .unset] [(.int (1 : Int32)), (.int aA)])) _
          refine XS.icmpNo X7.here hx rfl (hb hby at_88) rfl (XT.ii_lt_f hn2) ?_
          show Steps p.tables e below (T7.setTop (mkF m 91 #[.val (.int p1), .val (.int p2), .val (.int p3), .val (.int p4), .val (.int eE), .val (.int tT), .val (.int aA), .val (.int (eE + tT)), .unset] [])) _
          exact k)
        obtain ⟨T12, X12, e12, st12⟩ := getS2 X7 hx hZ hown (host := "") (Or.inl (hw _ (List.mem_of_getElem? (i := 12) rfl))) Via.refl eq7 SATTRIBUTE (g := (mkF m 91 #[.val (.int p1), .val (.int p2), .val (.int p3), .val (.int p4), .val (.int eE), .val (.int tT), .val (.int aA), .val (.int (eE + tT)), .unset] [])) rfl (hb hby at_91)
        have pre13 : ∀ t, Steps p.tables e below (T12.setTop (mkF m 124 #[.val (.int p1), .val (.int p2), .val (.int p3), .val (.int p4), .val (.int eE), .val (.int tT), .val (.int aA), .val (.int (eE + tT)), .val (.ref sA)] [(.int aA), (.int tT), (.int eE)])) t → Steps p.tables e below (s₁.setTop (entryFrame m #[(.int p1), (.int p2), (.int p3), (.int p4)] maxLocals)) t := fun t k => pre11 t (by
          show Steps p.tables e below (T7.setTop (mkF m 91 #[.val (.int p1), .val (.int p2), .val (.int p3), .val (.int p4), .val (.int eE), .val (.int tT), .val (.int aA), .val (.int (eE + tT)), .unset] [])) _
          refine st12 _ ?_
          show Steps p.tables e below (T12.setTop (mkF m 94 #[.val (.int p1), .val (.int p2), .val (.int p3), .val (.int p4), .val (.int eE), .val (.int tT), .val (.int aA), .val (.int (eE + tT)), .unset] [(.ref sA)])) _
          refine XS.astore X12.here hx rfl (hb hby at_94) rfl rfl (l' := #[.val (.int p1), .val (.int p2), .val (.int p3), .val (.int p4), .val (.int eE), .val (.int tT), .val (.int aA), .val (.int (eE + tT)), .val (.ref sA)]) rfl ?_
          show Steps p.tables e below (T12.setTop (mkF m 96 #[.val (.int p1), .val (.int p2), .val (.int p3), .val (.int p4), .val (.int eE), .val (.int tT), .val (.int aA), .val (.int (eE + tT)), .val (.ref sA)] [])) _
          refine XS.goto X12.here hx rfl (pc0 := 96) (pc' := 118) rfl (hb hby at_96) (by decide) (by decide) ?_
          show Steps p.tables e below (T12.setTop (mkF m 118 #[.val (.int p1), .val (.int p2), .val (.int p3), .val (.int p4), .val (.int eE), .val (.int tT), .val (.int aA), .val (.int (eE + tT)), .val (.ref sA)] [])) _
          refine XS.iload X12.here hx rfl (hb hby at_118) rfl ?_
          show Steps p.tables e below (T12.setTop (mkF m 120 #[.val (.int p1), .val (.int p2), .val (.int p3), .val (.int p4), .val (.int eE), .val (.int tT), .val (.int aA), .val (.int (eE + tT)), .val (.ref sA)] [(.int eE)])) _
          refine XS.iload X12.here hx rfl (hb hby at_120) rfl ?_
          show Steps p.tables e below (T12.setTop (mkF m 122 #[.val (.int p1), .val (.int p2), .val (.int p3), .val (.int p4), .val (.int eE), .val (.int tT), .val (.int aA), .val (.int (eE + tT)), .val (.ref sA)] [(.int tT), (.int eE)])) _
          refine XS.iload X12.here hx rfl (hb hby at_122) rfl ?_
          show Steps p.tables e below (T12.setTop (mkF m 124 #[.val (.int p1), .val (.int p2), .val (.int p3), .val (.int p4), .val (.int eE), .val (.int tT), .val (.int aA), .val (.int (eE + tT)), .val (.ref sA)] [(.int aA), (.int tT), (.int eE)])) _
          exact k)
        obtain ⟨_, _, ⟨T14, L14, kk14, nn14⟩, -, X14, ⟨Lc14, hQ14, l14, y14, z14⟩, st14⟩ := Jvm.LawKit.callS X12 hx (y := (⟨"com/example/ogma/ogma/interpret/QueryClass", "of", "(III)Lcom/example/ogma/ogma/interpret/QueryClass;"⟩ : MethodName)) hown (mvT hZ (hw _ (List.mem_of_getElem? (i := 8) rfl))) (mvT hZ (hw _ (List.mem_of_getElem? (i := 9) rfl))) (mvT hZ (hw _ (List.mem_of_getElem? (i := 6) rfl))) (mvT hZ (hw _ (List.mem_of_getElem? (i := 10) rfl))) (by decide) (backOf (W := 0) (rm_of l Z a0 hw [] eE tT aA sR sA sK sE sT h0 n0 Z0 SRELATION SATTRIBUTE SKEYWORD SENTITY STYPE) hZ (hw _ (List.mem_of_getElem? (i := 10) rfl)) (hw _ (List.mem_of_getElem? (i := 6) rfl)) (by decide) (by decide)) (g := (mkF m 124 #[.val (.int p1), .val (.int p2), .val (.int p3), .val (.int p4), .val (.int eE), .val (.int tT), .val (.int aA), .val (.int (eE + tT)), .val (.ref sA)] [(.int aA), (.int tT), (.int eE)])) rfl (by rw [hml]; rfl) (argsL := [(.int eE), (.int tT), (.int aA)]) (rest := []) (lenOf pd__III_Lcom_example_ogma_ogma_interpret_QueryClass_ rfl) rfl (by show 2 * 0 + _ ≤ _; exact Nat.le_of_eq rfl) (hb hby at_124) (fun _ _ => ⟨rfl, e12, (by decide : 0 + 0 ≤ _), (by decide : 0 + 0 ≤ _)⟩)
        dsimp only [Pt.U, Pt.locs, Pt.cells, Pt.slots] at X14 l14 y14 z14 st14 hQ14
        subst l14 y14 z14
        obtain ⟨rfl, N14q, eq14⟩ := hQ14
        have N14 := Fr.app N7 N14q
        have pre15 : ∀ t, Steps p.tables e below (T14.setTop (mkF m 137 #[.val (.int p1), .val (.int p2), .val (.int p3), .val (.int p4), .val (.int eE), .val (.int tT), .val (.int aA), .val (.int (eE + tT)), .val (.ref sA)] [(.int (1 : Int32))])) t → Steps p.tables e below (s₁.setTop (entryFrame m #[(.int p1), (.int p2), (.int p3), (.int p4)] maxLocals)) t := fun t k => pre13 t (by
          show Steps p.tables e below (T12.setTop (mkF m 124 #[.val (.int p1), .val (.int p2), .val (.int p3), .val (.int p4), .val (.int eE), .val (.int tT), .val (.int aA), .val (.int (eE + tT)), .val (.ref sA)] [(.int aA), (.int tT), (.int eE)])) _
          refine st14 _ ?_
          show Steps p.tables e below (T14.setTop (mkF m 127 #[.val (.int p1), .val (.int p2), .val (.int p3), .val (.int p4), .val (.int eE), .val (.int tT), .val (.int aA), .val (.int (eE + tT)), .val (.ref sA)] [(.ref (own_of eE tT aA sR sA sK sE sT))])) _
          rw [own_ofA beE btT hn0 hn1 hn2]
          show Steps p.tables e below (T14.setTop (mkF m 127 #[.val (.int p1), .val (.int p2), .val (.int p3), .val (.int p4), .val (.int eE), .val (.int tT), .val (.int aA), .val (.int (eE + tT)), .val (.ref sA)] [(.ref sA)])) _
          refine XS.aload X14.here hx rfl (hb hby at_127) rfl rfl ?_
          show Steps p.tables e below (T14.setTop (mkF m 129 #[.val (.int p1), .val (.int p2), .val (.int p3), .val (.int p4), .val (.int eE), .val (.int tT), .val (.int aA), .val (.int (eE + tT)), .val (.ref sA)] [(.ref sA), (.ref sA)])) _
          refine XT.acmpNo X14.here hx rfl (hb hby at_129) rfl rfl rfl (XT.aa_ne_f rfl) ?_
          show Steps p.tables e below (T14.setTop (mkF m 132 #[.val (.int p1), .val (.int p2), .val (.int p3), .val (.int p4), .val (.int eE), .val (.int tT), .val (.int aA), .val (.int (eE + tT)), .val (.ref sA)] [])) _
          refine XS.iconst X14.here hx rfl (hb hby at_132) ?_
          show Steps p.tables e below (T14.setTop (mkF m 133 #[.val (.int p1), .val (.int p2), .val (.int p3), .val (.int p4), .val (.int eE), .val (.int tT), .val (.int aA), .val (.int (eE + tT)), .val (.ref sA)] [(.int (1 : Int32))])) _
          refine XS.goto X14.here hx rfl (pc0 := 133) (pc' := 137) rfl (hb hby at_133) (by decide) (by decide) ?_
          show Steps p.tables e below (T14.setTop (mkF m 137 #[.val (.int p1), .val (.int p2), .val (.int p3), .val (.int p4), .val (.int eE), .val (.int tT), .val (.int aA), .val (.int (eE + tT)), .val (.ref sA)] [(.int (1 : Int32))])) _
          exact k)
        obtain ⟨fs, hr, hrun, hended, hW, hsame⟩ := X14.leave (v := some (.int (1 : Int32))) (fun h => by rw [Bd.returns] at h; cases h)
        refine ⟨_, _, pre15 _ ?_, hrun, hended, _, _, rfl, ?_, ⟨_, rfl⟩, hW, hsame.mono (by decide) (by decide)⟩
        · exact retN X14 hx (t := .boolean) Bd.returns (by simp) (hb hby at_137) hr
        · show Q_0 Z p1 p2 p3 p4 sR sA sK sE sT h0 n0 _ T14.heap _
          rw [eq14]
          exact ⟨rfl, N14⟩
    · skip
      have pre10 : ∀ t, Steps p.tables e below (T7.setTop (mkF m 77 #[.val (.int p1), .val (.int p2), .val (.int p3), .val (.int p4), .val (.int eE), .val (.int tT), .val (.int aA), .val (.int (eE + tT)), .unset] [])) t → Steps p.tables e below (s₁.setTop (entryFrame m #[(.int p1), (.int p2), (.int p3), (.int p4)] maxLocals)) t := fun t k => pre9 t (by
        show Steps p.tables e below (T7.setTop (mkF m 74 #[.val (.int p1), .val (.int p2), .val (.int p3), .val (.int p4), .val (.int eE), .val (.int tT), .val (.int aA), .val (.int (eE + tT)), .unset] [(.int (2 : Int32)), (.int (eE + tT))])) _
        refine XS.icmpNo X7.here hx rfl (hb hby at_74) rfl (XT.ii_lt_f hn1) ?_
        show Steps p.tables e below (T7.setTop (mkF m 77 #[.val (.int p1), .val (.int p2), .val (.int p3), .val (.int p4), .val (.int eE), .val (.int tT), .val (.int aA), .val (.int (eE + tT)), .unset] [])) _
        exact k)
      obtain ⟨T11, X11, e11, st11⟩ := getS2 X7 hx hZ hown (host := "") (Or.inl (hw _ (List.mem_of_getElem? (i := 5) rfl))) Via.refl eq7 SRELATION (g := (mkF m 77 #[.val (.int p1), .val (.int p2), .val (.int p3), .val (.int p4), .val (.int eE), .val (.int tT), .val (.int aA), .val (.int (eE + tT)), .unset] [])) rfl (hb hby at_77)
      have pre12 : ∀ t, Steps p.tables e below (T11.setTop (mkF m 124 #[.val (.int p1), .val (.int p2), .val (.int p3), .val (.int p4), .val (.int eE), .val (.int tT), .val (.int aA), .val (.int (eE + tT)), .val (.ref sR)] [(.int aA), (.int tT), (.int eE)])) t → Steps p.tables e below (s₁.setTop (entryFrame m #[(.int p1), (.int p2), (.int p3), (.int p4)] maxLocals)) t := fun t k => pre10 t (by
        show Steps p.tables e below (T7.setTop (mkF m 77 #[.val (.int p1), .val (.int p2), .val (.int p3), .val (.int p4), .val (.int eE), .val (.int tT), .val (.int aA), .val (.int (eE + tT)), .unset] [])) _
        refine st11 _ ?_
        show Steps p.tables e below (T11.setTop (mkF m 80 #[.val (.int p1), .val (.int p2), .val (.int p3), .val (.int p4), .val (.int eE), .val (.int tT), .val (.int aA), .val (.int (eE + tT)), .unset] [(.ref sR)])) _
        refine XS.astore X11.here hx rfl (hb hby at_80) rfl rfl (l' := #[.val (.int p1), .val (.int p2), .val (.int p3), .val (.int p4), .val (.int eE), .val (.int tT), .val (.int aA), .val (.int (eE + tT)), .val (.ref sR)]) rfl ?_
        show Steps p.tables e below (T11.setTop (mkF m 82 #[.val (.int p1), .val (.int p2), .val (.int p3), .val (.int p4), .val (.int eE), .val (.int tT), .val (.int aA), .val (.int (eE + tT)), .val (.ref sR)] [])) _
        refine XS.goto X11.here hx rfl (pc0 := 82) (pc' := 118) rfl (hb hby at_82) (by decide) (by decide) ?_
        show Steps p.tables e below (T11.setTop (mkF m 118 #[.val (.int p1), .val (.int p2), .val (.int p3), .val (.int p4), .val (.int eE), .val (.int tT), .val (.int aA), .val (.int (eE + tT)), .val (.ref sR)] [])) _
        refine XS.iload X11.here hx rfl (hb hby at_118) rfl ?_
        show Steps p.tables e below (T11.setTop (mkF m 120 #[.val (.int p1), .val (.int p2), .val (.int p3), .val (.int p4), .val (.int eE), .val (.int tT), .val (.int aA), .val (.int (eE + tT)), .val (.ref sR)] [(.int eE)])) _
        refine XS.iload X11.here hx rfl (hb hby at_120) rfl ?_
        show Steps p.tables e below (T11.setTop (mkF m 122 #[.val (.int p1), .val (.int p2), .val (.int p3), .val (.int p4), .val (.int eE), .val (.int tT), .val (.int aA), .val (.int (eE + tT)), .val (.ref sR)] [(.int tT), (.int eE)])) _
        refine XS.iload X11.here hx rfl (hb hby at_122) rfl ?_
        show Steps p.tables e below (T11.setTop (mkF m 124 #[.val (.int p1), .val (.int p2), .val (.int p3), .val (.int p4), .val (.int eE), .val (.int tT), .val (.int aA), .val (.int (eE + tT)), .val (.ref sR)] [(.int aA), (.int tT), (.int eE)])) _
        exact k)
      obtain ⟨_, _, ⟨T13, L13, kk13, nn13⟩, -, X13, ⟨Lc13, hQ13, l13, y13, z13⟩, st13⟩ := Jvm.LawKit.callS X11 hx (y := (⟨"com/example/ogma/ogma/interpret/QueryClass", "of", "(III)Lcom/example/ogma/ogma/interpret/QueryClass;"⟩ : MethodName)) hown (mvT hZ (hw _ (List.mem_of_getElem? (i := 8) rfl))) (mvT hZ (hw _ (List.mem_of_getElem? (i := 9) rfl))) (mvT hZ (hw _ (List.mem_of_getElem? (i := 6) rfl))) (mvT hZ (hw _ (List.mem_of_getElem? (i := 10) rfl))) (by decide) (backOf (W := 0) (rm_of l Z a0 hw [] eE tT aA sR sA sK sE sT h0 n0 Z0 SRELATION SATTRIBUTE SKEYWORD SENTITY STYPE) hZ (hw _ (List.mem_of_getElem? (i := 10) rfl)) (hw _ (List.mem_of_getElem? (i := 6) rfl)) (by decide) (by decide)) (g := (mkF m 124 #[.val (.int p1), .val (.int p2), .val (.int p3), .val (.int p4), .val (.int eE), .val (.int tT), .val (.int aA), .val (.int (eE + tT)), .val (.ref sR)] [(.int aA), (.int tT), (.int eE)])) rfl (by rw [hml]; rfl) (argsL := [(.int eE), (.int tT), (.int aA)]) (rest := []) (lenOf pd__III_Lcom_example_ogma_ogma_interpret_QueryClass_ rfl) rfl (by show 2 * 0 + _ ≤ _; exact Nat.le_of_eq rfl) (hb hby at_124) (fun _ _ => ⟨rfl, e11, (by decide : 0 + 0 ≤ _), (by decide : 0 + 0 ≤ _)⟩)
      dsimp only [Pt.U, Pt.locs, Pt.cells, Pt.slots] at X13 l13 y13 z13 st13 hQ13
      subst l13 y13 z13
      obtain ⟨rfl, N13q, eq13⟩ := hQ13
      have N13 := Fr.app N7 N13q
      have pre14 : ∀ t, Steps p.tables e below (T13.setTop (mkF m 137 #[.val (.int p1), .val (.int p2), .val (.int p3), .val (.int p4), .val (.int eE), .val (.int tT), .val (.int aA), .val (.int (eE + tT)), .val (.ref sR)] [(.int (1 : Int32))])) t → Steps p.tables e below (s₁.setTop (entryFrame m #[(.int p1), (.int p2), (.int p3), (.int p4)] maxLocals)) t := fun t k => pre12 t (by
        show Steps p.tables e below (T11.setTop (mkF m 124 #[.val (.int p1), .val (.int p2), .val (.int p3), .val (.int p4), .val (.int eE), .val (.int tT), .val (.int aA), .val (.int (eE + tT)), .val (.ref sR)] [(.int aA), (.int tT), (.int eE)])) _
        refine st13 _ ?_
        show Steps p.tables e below (T13.setTop (mkF m 127 #[.val (.int p1), .val (.int p2), .val (.int p3), .val (.int p4), .val (.int eE), .val (.int tT), .val (.int aA), .val (.int (eE + tT)), .val (.ref sR)] [(.ref (own_of eE tT aA sR sA sK sE sT))])) _
        rw [own_ofR hn1]
        show Steps p.tables e below (T13.setTop (mkF m 127 #[.val (.int p1), .val (.int p2), .val (.int p3), .val (.int p4), .val (.int eE), .val (.int tT), .val (.int aA), .val (.int (eE + tT)), .val (.ref sR)] [(.ref sR)])) _
        refine XS.aload X13.here hx rfl (hb hby at_127) rfl rfl ?_
        show Steps p.tables e below (T13.setTop (mkF m 129 #[.val (.int p1), .val (.int p2), .val (.int p3), .val (.int p4), .val (.int eE), .val (.int tT), .val (.int aA), .val (.int (eE + tT)), .val (.ref sR)] [(.ref sR), (.ref sR)])) _
        refine XT.acmpNo X13.here hx rfl (hb hby at_129) rfl rfl rfl (XT.aa_ne_f rfl) ?_
        show Steps p.tables e below (T13.setTop (mkF m 132 #[.val (.int p1), .val (.int p2), .val (.int p3), .val (.int p4), .val (.int eE), .val (.int tT), .val (.int aA), .val (.int (eE + tT)), .val (.ref sR)] [])) _
        refine XS.iconst X13.here hx rfl (hb hby at_132) ?_
        show Steps p.tables e below (T13.setTop (mkF m 133 #[.val (.int p1), .val (.int p2), .val (.int p3), .val (.int p4), .val (.int eE), .val (.int tT), .val (.int aA), .val (.int (eE + tT)), .val (.ref sR)] [(.int (1 : Int32))])) _
        refine XS.goto X13.here hx rfl (pc0 := 133) (pc' := 137) rfl (hb hby at_133) (by decide) (by decide) ?_
        show Steps p.tables e below (T13.setTop (mkF m 137 #[.val (.int p1), .val (.int p2), .val (.int p3), .val (.int p4), .val (.int eE), .val (.int tT), .val (.int aA), .val (.int (eE + tT)), .val (.ref sR)] [(.int (1 : Int32))])) _
        exact k)
      obtain ⟨fs, hr, hrun, hended, hW, hsame⟩ := X13.leave (v := some (.int (1 : Int32))) (fun h => by rw [Bd.returns] at h; cases h)
      refine ⟨_, _, pre14 _ ?_, hrun, hended, _, _, rfl, ?_, ⟨_, rfl⟩, hW, hsame.mono (by decide) (by decide)⟩
      · exact retN X13 hx (t := .boolean) Bd.returns (by simp) (hb hby at_137) hr
      · show Q_0 Z p1 p2 p3 p4 sR sA sK sE sT h0 n0 _ T13.heap _
        rw [eq13]
        exact ⟨rfl, N13⟩
set_option maxRecDepth 65536 in
set_option maxHeartbeats 40000000 in
theorem comes_1 {Post : Tables → Env → Array Value → State → Outcome → State → Prop} (hpost : ∀ tb e args s v u, (limb_1_1.after args s (.returned v) u = true ∧ limb_1_2.after args s (.returned v) u = true ∧ True) → FrameEnd s (.returned v) u (Jvm.fieldLocs frame_1_writes args s ++ Jvm.arrayLocs frame_1_arrays args s ++ Jvm.staticLocs frame_1_statics s) 0 0 → Post tb e args s (.returned v) u) :
    ArmFor flags0 classFile x code maxLocals ret World_1 tables_1 room_1 Calls_1 rest_1 Pre_1 Post := by
  intro l hfl _ _ p e ha hc hk s m args below hf hA hF happ hP
  obtain ⟨hcalls, hrest, hpre⟩ := hP
  obtain ⟨-, -, -, hnamed, -, -, -, hat⟩ := (Spec.applies_iff hf).mp happ
  obtain ⟨hg, hn⟩ := and_e (Cond.before_iff.mp (show (Jvm.Cond.and given_1 narrow_1).before args s = true from hpre))
  obtain ⟨gc, hg⟩ := and_e hg
  obtain ⟨gi0, hg⟩ := and_e hg
  obtain ⟨gi1, hg⟩ := and_e hg
  obtain ⟨gi2, hg⟩ := and_e hg
  have gi3 := hg
  obtain ⟨w0, w1, w2, w3, rfl⟩ : ∃ w0 w1 w2 w3 : Value, args = #[w0, w1, w2, w3] := by
    have hs : args.size = 4 := by simpa [Cond.value, given_1] using gc
    obtain ⟨L⟩ := args
    match L, hs with
    | [w0, w1, w2, w3], _ => exact ⟨w0, w1, w2, w3, rfl⟩
  have hw := fun d (hd : d ∈ tables_1) => atoms_spec (ws := Jvm.Cond.code x code maxLocals ret :: tables_1) hat d (List.mem_cons_of_mem _ hd)
  have hfit : Fit s := fun {y c} hc i hi => by
    obtain ⟨ha, rfl⟩ := Array.getElem?_eq_some_iff.mp hc
    have q := List.all_eq_true.mp ((Array.all_eq_true_iff_forall_mem.mp hF) _ (Array.getElem_mem ha)) i (List.mem_range.mpr hi)
    simpa [Array.getElem?_eq_getElem hi] using q
  obtain ⟨i0, ei0⟩ := is_v gi0
  obtain rfl : w0 = (.int i0) := Option.some.inj ei0
  obtain ⟨i1, ei1⟩ := is_v gi1
  obtain rfl : w1 = (.int i1) := Option.some.inj ei1
  obtain ⟨i2, ei2⟩ := is_v gi2
  obtain rfl : w2 = (.int i2) := Option.some.inj ei2
  obtain ⟨i3, ei3⟩ := is_v gi3
  obtain rfl : w3 = (.int i3) := Option.some.inj ei3
  obtain ⟨nR, hn⟩ := and_e hn
  obtain ⟨nA, hn⟩ := and_e hn
  obtain ⟨nK, hn⟩ := and_e hn
  obtain ⟨nE, nT⟩ := and_e hn
  obtain ⟨sR, evR⟩ := exa_v nR
  have SRELATION : Sta s s.heap "com/example/ogma/ogma/interpret/QueryClass" "RELATION" "Lcom/example/ogma/ogma/interpret/QueryClass;" (.ref sR) := Sta.start evR (Or.inr ⟨hw _ (List.mem_of_getElem? (i := 6) rfl), hw _ (List.mem_of_getElem? (i := 7) rfl)⟩)
  obtain ⟨sA, evA⟩ := exa_v nA
  have SATTRIBUTE : Sta s s.heap "com/example/ogma/ogma/interpret/QueryClass" "ATTRIBUTE" "Lcom/example/ogma/ogma/interpret/QueryClass;" (.ref sA) := Sta.start evA (Or.inr ⟨hw _ (List.mem_of_getElem? (i := 6) rfl), hw _ (List.mem_of_getElem? (i := 13) rfl)⟩)
  obtain ⟨sK, evK⟩ := exa_v nK
  have SKEYWORD : Sta s s.heap "com/example/ogma/ogma/interpret/QueryClass" "KEYWORD" "Lcom/example/ogma/ogma/interpret/QueryClass;" (.ref sK) := Sta.start evK (Or.inr ⟨hw _ (List.mem_of_getElem? (i := 6) rfl), hw _ (List.mem_of_getElem? (i := 16) rfl)⟩)
  obtain ⟨sE, evE⟩ := exa_v nE
  have SENTITY : Sta s s.heap "com/example/ogma/ogma/interpret/QueryClass" "ENTITY" "Lcom/example/ogma/ogma/interpret/QueryClass;" (.ref sE) := Sta.start evE (Or.inr ⟨hw _ (List.mem_of_getElem? (i := 6) rfl), hw _ (List.mem_of_getElem? (i := 19) rfl)⟩)
  obtain ⟨sT, evT⟩ := exa_v nT
  have STYPE : Sta s s.heap "com/example/ogma/ogma/interpret/QueryClass" "TYPE" "Lcom/example/ogma/ogma/interpret/QueryClass;" (.ref sT) := Sta.start evT (Or.inr ⟨hw _ (List.mem_of_getElem? (i := 6) rfl), hw _ (List.mem_of_getElem? (i := 22) rfl)⟩)
  obtain ⟨n, o, h1, h2, h3, _, L, rfl, ⟨rfl, N⟩, hq⟩ := rm_0 l s _ hw tables_1 i0 i1 i2 i3 sR sA sK sE sT s.heap s.heap.size (Nat.le_refl _) SRELATION SATTRIBUTE SKEYWORD SENTITY STYPE p e ha hc hk s m _ below hf ((Spec.applies_iff_loose hf).mp happ).1 ⟨rfl, State.Warmed39.refl s, rfl⟩ trivial
  refine ⟨n, _, h1, h2, h3, hpost _ _ _ _ _ _ ⟨Cond.after_iff.mpr rfl, Cond.after_iff.mpr (eq_i res_at (Term.int_eval (1)) rfl), trivial⟩ ⟨hq.1, hq.2.1, (hq.2.2.sift fun y hy => Or.inr (N y hy)).mono (by decide) (by decide)⟩⟩
theorem main_1_1 : Claimed_1_1 := comes_1 fun _ _ _ _ _ _ h hF => ⟨h.1, hF⟩
theorem main_1_2 : Claimed_1_2 := comes_1 fun _ _ _ _ _ _ h hF => ⟨h.2.1, hF⟩
end Jvm.Pilot.@@N@@
namespace Jvm.Pilot.@@N@@
open Jvm Jvm.ClassFile Sem Op Lib Jvm.Free Jvm.Stand Jvm.Pilot.@@N@@.Jvm.D
/-! MADE BY PROGRAM (witnessworld.py) out of the Statement's table words and the real class files: 12 classes; the members and pool entries that the words name. The judged class is class 1, her method 2. -/
namespace start1
open Jvm.ClassFile
def u (s : String) : CpInfo := .utf8 (stringToUtf16 s)
/-- a pool by its gaps: so many unusable entries, then the entry; so many at the end -/
def gap : Nat → List CpInfo → List CpInfo
  | 0, r => r
  | n + 1, r => .unusable :: gap n r
def poolList (es : List (Nat × CpInfo)) (last : Nat) : List CpInfo := es.foldr (fun e r => gap e.1 (e.2 :: r)) (gap last [])
def pool (es : List (Nat × CpInfo)) (last : Nat) : Array CpInfo := ⟨poolList es last⟩
def fileOf (pool : Array CpInfo) (this : Nat) (attrs : Array Attribute := #[]) (ms : Array MethodInfo := #[]) (fl : Nat := 33) (sup : Nat := 0) (ifs : Array Nat := #[]) (fds : Array FieldInfo := #[]) : ClassFile where
  minorVersion := 0
  majorVersion := 65
  constantPool := pool
  accessFlags := fl
  thisClass := this
  superClass := sup
  interfaces := ifs
  fields := fds
  methods := ms
  attributes := attrs
def plain (name : String) (sup : Option ClassId) : Class where
  name := name
  kind := .ordinary
  loader := none
  accessFlags := 33
  super := sup
  interfaces := #[]
  cf := none
  fields := #[]
  methods := #[]
  instanceTypes := #[]
  staticTypes := #[]
  resolved := #[]
  callSites := []
  init := .initialized
  statics := none
  mirror := none

def pool0 : Array CpInfo := pool [(5, u "<init>"), (0, u "()V"), (1, .class_ 10), (1, u "java/lang/Object")] 113

def k0m0 : Method := { name := "<init>", desc := "()V", sig := { parameters := [], returnType := none }, accessFlags := 1, code := none }
/-- java/lang/Object -/
def k0 : Class := { plain "java/lang/Object" none with
  accessFlags := 33
  interfaces := #[]
  cf := some (fileOf pool0 8 #[] #[{ accessFlags := 1, nameIndex := 5, descriptorIndex := 6, attributes := #[] }] 33 0 #[] #[])
  fields := #[]
  methods := #[k0m0]
  instanceTypes := #[]
  staticTypes := #[]
  resolved := Array.replicate 124 none
  statics := none }

def pool1 : Array CpInfo := pool [(2, .class_ 4), (1, u "java/lang/Object"), (0, u "<init>"), (0, u "()V"), (0, .integer 1073741823), (0, .methodref 9 10), (0, .class_ 11), (0, .nameAndType 12 13), (0, u "com/example/ogma/ogma/interpret/QueryClassOfPinLaw"), (0, u "draw"), (0, u "(IZ)I"), (0, .fieldref 15 16), (0, .class_ 17), (0, .nameAndType 18 19), (0, u "com/example/ogma/ogma/interpret/QueryClass"), (0, u "KEYWORD"), (0, u "Lcom/example/ogma/ogma/interpret/QueryClass;"), (0, .fieldref 15 21), (0, .nameAndType 22 19), (0, u "RELATION"), (0, .fieldref 15 24), (0, .nameAndType 25 19), (0, u "ATTRIBUTE"), (0, .fieldref 15 27), (0, .nameAndType 28 19), (0, u "ENTITY"), (0, .fieldref 15 30), (0, .nameAndType 31 19), (0, u "TYPE"), (0, .methodref 15 33), (0, .nameAndType 34 35), (0, u "of"), (0, u "(III)Lcom/example/ogma/ogma/interpret/QueryClass;"), (3, u "law"), (0, u "(IIII)Z")] 2

def k1m0 : Method := { name := "<init>", desc := "()V", sig := { parameters := [], returnType := none }, accessFlags := 1, code := none }
def k1c1 : Code := { maxStack := 2, maxLocals := 2, code := method_2_code, exceptionTable := #[], attributes := #[] }
def k1m1 : Method := { name := "draw", desc := "(IZ)I", sig := { parameters := [.int, .boolean], returnType := some .int }, accessFlags := 10, code := some k1c1 }
def k1c2 : Code := { maxStack := 3, maxLocals := 9, code := code, exceptionTable := #[], attributes := #[] }
def k1m2 : Method := { name := "law", desc := "(IIII)Z", sig := { parameters := [.int, .int, .int, .int], returnType := some .boolean }, accessFlags := 9, code := some k1c2 }
/-- com/example/ogma/ogma/interpret/QueryClassOfPinLaw -/
def k1 : Class := { plain "com/example/ogma/ogma/interpret/QueryClassOfPinLaw" (some 0) with
  accessFlags := 49
  interfaces := #[]
  cf := some (fileOf pool1 9 #[] #[{ accessFlags := 1, nameIndex := 5, descriptorIndex := 6, attributes := #[] }, { accessFlags := 10, nameIndex := 12, descriptorIndex := 13, attributes := #[] }, { accessFlags := 9, nameIndex := 39, descriptorIndex := 40, attributes := #[] }] 49 2 #[] #[])
  fields := #[]
  methods := #[k1m0, k1m1, k1m2]
  instanceTypes := #[]
  staticTypes := #[]
  resolved := Array.replicate 43 none
  statics := none }

def pool2 : Array CpInfo := pool [(1, .class_ 2), (0, u "java/lang/constant/Constable"), (0, .class_ 4), (0, u "java/lang/Object")] 6

/-- java/lang/constant/Constable -/
def k2 : Class := { plain "java/lang/constant/Constable" (some 0) with
  accessFlags := 1537
  interfaces := #[]
  cf := some (fileOf pool2 1 #[] #[] 1537 3 #[] #[])
  fields := #[]
  methods := #[]
  instanceTypes := #[]
  staticTypes := #[]
  resolved := Array.replicate 11 none
  statics := none }

def pool3 : Array CpInfo := pool [(1, .class_ 2), (0, u "java/lang/Comparable"), (0, .class_ 4), (0, u "java/lang/Object")] 7

/-- java/lang/Comparable -/
def k3 : Class := { plain "java/lang/Comparable" (some 0) with
  accessFlags := 1537
  interfaces := #[]
  cf := some (fileOf pool3 1 #[] #[] 1537 3 #[] #[])
  fields := #[]
  methods := #[]
  instanceTypes := #[]
  staticTypes := #[]
  resolved := Array.replicate 12 none
  statics := none }

def pool4 : Array CpInfo := pool [(1, .class_ 2), (0, u "java/io/Serializable"), (0, .class_ 4), (0, u "java/lang/Object")] 2

/-- java/io/Serializable -/
def k4 : Class := { plain "java/io/Serializable" (some 0) with
  accessFlags := 1537
  interfaces := #[]
  cf := some (fileOf pool4 1 #[] #[] 1537 3 #[] #[])
  fields := #[]
  methods := #[]
  instanceTypes := #[]
  staticTypes := #[]
  resolved := Array.replicate 7 none
  statics := none }

def pool5 : Array CpInfo := pool [(2, .class_ 4), (1, u "java/lang/Enum"), (0, u "name"), (0, u "Ljava/lang/String;"), (2, u "ordinal"), (0, u "I"), (1, .class_ 14), (1, u "java/lang/Object"), (4, u "hash"), (86, .class_ 108), (1, u "java/lang/Enum$EnumDesc"), (2, .class_ 112), (0, u "java/lang/constant/Constable"), (0, .class_ 114), (0, u "java/lang/Comparable"), (0, .class_ 116), (0, u "java/io/Serializable")] 87

/-- java/lang/Enum -/
def k5 : Class := { plain "java/lang/Enum" (some 0) with
  accessFlags := 1057
  interfaces := #[2, 3, 4]
  cf := some (fileOf pool5 2 #[.nestMembers #[106]] #[] 1057 12 #[111, 113, 115] #[{ accessFlags := 18, nameIndex := 5, descriptorIndex := 6, attributes := #[] }, { accessFlags := 18, nameIndex := 9, descriptorIndex := 10, attributes := #[] }, { accessFlags := 2, nameIndex := 19, descriptorIndex := 10, attributes := #[] }])
  fields := #[{ name := "name", type := (.object "java/lang/String"), accessFlags := 18, slot := 0, constantValue := 0 }, { name := "ordinal", type := .int, accessFlags := 18, slot := 1, constantValue := 0 }, { name := "hash", type := .int, accessFlags := 2, slot := 2, constantValue := 0 }]
  methods := #[]
  instanceTypes := #[(.object "java/lang/String"), .int, .int]
  staticTypes := #[]
  resolved := Array.replicate 204 none
  statics := none }

def pool6 : Array CpInfo := pool [(1, .class_ 2), (0, u "com/example/ogma/ogma/interpret/QueryClass"), (0, .fieldref 1 4), (0, .nameAndType 5 6), (0, u "RELATION"), (0, u "Lcom/example/ogma/ogma/interpret/QueryClass;"), (0, .fieldref 1 8), (0, .nameAndType 9 6), (0, u "ATTRIBUTE"), (0, .fieldref 1 11), (0, .nameAndType 12 6), (0, u "ENTITY"), (0, .fieldref 1 14), (0, .nameAndType 15 6), (0, u "TYPE"), (0, .fieldref 1 17), (0, .nameAndType 18 6), (0, u "KEYWORD"), (2, u "$VALUES"), (0, u "[Lcom/example/ogma/ogma/interpret/QueryClass;"), (6, .class_ 31), (1, u "java/lang/Enum"), (8, u "label"), (0, u "Ljava/lang/String;"), (30, u "of"), (0, u "(III)Lcom/example/ogma/ogma/interpret/QueryClass;")] 6

def k6c0 : Code := { maxStack := 2, maxLocals := 4, code := prog_25_method_5_code, exceptionTable := #[], attributes := #[] }
def k6m0 : Method := { name := "of", desc := "(III)Lcom/example/ogma/ogma/interpret/QueryClass;", sig := { parameters := [.int, .int, .int], returnType := some (.object "com/example/ogma/ogma/interpret/QueryClass") }, accessFlags := 8, code := some k6c0 }
/-- com/example/ogma/ogma/interpret/QueryClass -/
def k6 : Class := { plain "com/example/ogma/ogma/interpret/QueryClass" (some 5) with
  accessFlags := 16433
  interfaces := #[]
  cf := some (fileOf pool6 1 #[] #[{ accessFlags := 8, nameIndex := 72, descriptorIndex := 73, attributes := #[] }] 16433 29 #[] #[{ accessFlags := 16409, nameIndex := 5, descriptorIndex := 6, attributes := #[] }, { accessFlags := 16409, nameIndex := 9, descriptorIndex := 6, attributes := #[] }, { accessFlags := 16409, nameIndex := 12, descriptorIndex := 6, attributes := #[] }, { accessFlags := 16409, nameIndex := 15, descriptorIndex := 6, attributes := #[] }, { accessFlags := 16409, nameIndex := 18, descriptorIndex := 6, attributes := #[] }, { accessFlags := 18, nameIndex := 40, descriptorIndex := 41, attributes := #[] }, { accessFlags := 4122, nameIndex := 21, descriptorIndex := 22, attributes := #[] }])
  fields := #[{ name := "RELATION", type := (.object "com/example/ogma/ogma/interpret/QueryClass"), accessFlags := 16409, slot := 0, constantValue := 0 }, { name := "ATTRIBUTE", type := (.object "com/example/ogma/ogma/interpret/QueryClass"), accessFlags := 16409, slot := 1, constantValue := 0 }, { name := "ENTITY", type := (.object "com/example/ogma/ogma/interpret/QueryClass"), accessFlags := 16409, slot := 2, constantValue := 0 }, { name := "TYPE", type := (.object "com/example/ogma/ogma/interpret/QueryClass"), accessFlags := 16409, slot := 3, constantValue := 0 }, { name := "KEYWORD", type := (.object "com/example/ogma/ogma/interpret/QueryClass"), accessFlags := 16409, slot := 4, constantValue := 0 }, { name := "label", type := (.object "java/lang/String"), accessFlags := 18, slot := 3, constantValue := 0 }, { name := "$VALUES", type := (.array (.object "com/example/ogma/ogma/interpret/QueryClass")), accessFlags := 4122, slot := 5, constantValue := 0 }]
  methods := #[k6m0]
  instanceTypes := #[(.object "java/lang/String"), .int, .int, (.object "java/lang/String")]
  staticTypes := #[(.object "com/example/ogma/ogma/interpret/QueryClass"), (.object "com/example/ogma/ogma/interpret/QueryClass"), (.object "com/example/ogma/ogma/interpret/QueryClass"), (.object "com/example/ogma/ogma/interpret/QueryClass"), (.object "com/example/ogma/ogma/interpret/QueryClass"), (.array (.object "com/example/ogma/ogma/interpret/QueryClass"))]
  resolved := Array.replicate 80 none
  statics := some 0 }

def pool7 : Array CpInfo := pool [(1, u "java/lang/Cloneable"), (0, .class_ 1), (0, u "java/lang/Object"), (0, .class_ 3)] 3

/-- java/lang/Cloneable -/
def k7 : Class := { plain "java/lang/Cloneable" (some 0) with
  accessFlags := 1537
  interfaces := #[]
  cf := some (fileOf pool7 2 #[] #[] 1537 4 #[] #[])
  fields := #[]
  methods := #[]
  instanceTypes := #[]
  staticTypes := #[]
  resolved := Array.replicate 8 none
  statics := none }

/-- the primitive byte -/
def k8 : Class := { plain "byte" none with kind := .primitive 'B', accessFlags := 0x411 }
/-- [B -/
def k9 : Class := { plain "[B" (some 0) with kind := .array 8 .byte, interfaces := #[7, 4], accessFlags := 1041 }

/-- the primitive int -/
def k10 : Class := { plain "int" none with kind := .primitive 'I', accessFlags := 0x411 }
/-- [I -/
def k11 : Class := { plain "[I" (some 0) with kind := .array 10 .int, interfaces := #[7, 4], accessFlags := 1041 }

def heap : Heap := #[{ cls := 6, slots := #[.ref 1, .ref 2, .ref 4, .ref 5, .ref 3, .null], vm := .statics 6 },
  { cls := 6, slots := #[.null, .int 0, .int 0, .null], vm := .none },
  { cls := 6, slots := #[.null, .int 1, .int 0, .null], vm := .none },
  { cls := 6, slots := #[.null, .int 2, .int 0, .null], vm := .none },
  { cls := 6, slots := #[.null, .int 3, .int 0, .null], vm := .none },
  { cls := 6, slots := #[.null, .int 4, .int 0, .null], vm := .none }]
def classes : Array Class := #[k0, k1, k2, k3, k4, k5, k6, k7, k8, k9, k10, k11]
def interned : List (Array UInt16 × Addr) := []
def slotsUsed : Nat := 26
def theMethod : MethodId := ⟨1, 2⟩
def args0 : Array Value := #[.int 5, .int 1, .int 2, .int 3]
def aboutOver (below : List Frame) : State where
  vm := { classes := classes, interned := interned.toArray }
  heap := heap
  slotsUsed := slotsUsed
  threads := #[{ frames := .invoking theMethod args0 :: below }]
def below0 : List Frame := [.native { method := ⟨0, 0⟩, args := #[] }]
def about1 : State := aboutOver below0
def p0 : Program := .bare "" "" ""
def e0 : Env := launch0.env 0 0 0
theorem w_frames : about1.frames = Frame.invoking theMethod args0 :: below0 := rfl
set_option maxRecDepth 65536 in
theorem w_args : argsFit about1.vm theMethod args0 = true := by decide +kernel
set_option maxRecDepth 65536 in
theorem w_heap : heapFits about1 = true := by decide +kernel
set_option maxRecDepth 65536 in
theorem w_runnable : about1.curStatus? = some .runnable := by decide +kernel
set_option maxRecDepth 65536 in
theorem w_alone : about1.alone = true := by decide +kernel
set_option maxRecDepth 65536 in
theorem w_named : about1.methodNamed? x = some theMethod := by decide +kernel
set_option maxRecDepth 65536 in
theorem w_hears : about1.hears theMethod below0 = true := by decide +kernel
set_option maxRecDepth 65536 in
theorem w_ripe : about1.ripe theMethod args0 below0 = true := by decide +kernel
theorem w_running : about1.status = .running := rfl
set_option maxRecDepth 65536 in
theorem w_room : about1.hasRoom e0.platform room_1 = true :=
  launch0.hasRoom_least _ room_1 (by decide +kernel) (by decide +kernel) (by decide +kernel) (by decide +kernel) (by decide +kernel) (by decide +kernel)
theorem allAtoms_all (ts : List Jvm.Cond) (a : Array Jvm.Value) (st : Jvm.State) : (allAtoms ts).before a st = ts.all (fun c => c.before a st) := by
  induction ts with
  | nil => rfl
  | cons c t ih =>
    show (Jvm.Cond.and c (allAtoms t)).before a st = _
    rw [Jvm.Cond.before_and, ih, List.all_cons]
def words1 : List Jvm.Cond := Jvm.Cond.code x code maxLocals ret :: tables_1
/-- a 'code' word, met by the world's own term for the bytes: nothing is compared byte by byte -/
theorem code_word {y : MethodName} {bytes : ByteArray} {mx : Nat} {rt : Option FieldType} {a : Array Value} {s : State} {m : MethodId} {meth : Method} {c : Code} (h1 : s.methodNamed? y = some m) (h2 : s.vm.method? m = some meth) (h3 : meth.code = some c) (h4 : c.code = bytes)
    (h5 : (c.maxLocals == mx && c.exceptionTable.isEmpty && decide (c.maxStack ≤ mostOperands) && decide (meth.sig.returnType = rt) && !meth.locks && decide (parseMethodDescriptor y.desc = some meth.sig)) = true) : (Jvm.Cond.code y bytes mx rt).before a s = true := by
  simp only [Bool.and_eq_true, beq_iff_eq, Bool.not_eq_true', decide_eq_true_eq] at h5
  obtain ⟨⟨⟨⟨⟨g1, g2⟩, g3⟩, g4⟩, g5⟩, g6⟩ := h5
  simp [Cond.before, Cond.holds, Cond.value, h1, h2, h3, h4, g1, g2, g3, g4, g5, g6]
def isCode : Jvm.Cond → Bool
  | .code _ _ _ _ => true
  | _ => false
theorem all_split {L : List Jvm.Cond} {P : Jvm.Cond → Bool} (h1 : L.all (fun c => isCode c || P c) = true) (h2 : ∀ c ∈ L.filter isCode, P c = true) : L.all P = true := by
  refine List.all_eq_true.mpr fun c hc => ?_
  have h := List.all_eq_true.mp h1 c hc
  rcases Bool.eq_false_or_eq_true (isCode c) with hi | hi
  · exact h2 c (List.mem_filter.mpr ⟨hc, hi⟩)
  · simpa [hi] using h
set_option maxRecDepth 65536 in
theorem w_c0 : (Jvm.Cond.code x code maxLocals ret).before args0 about1 = true := code_word (m := ⟨1, 2⟩) (meth := k1m2) (c := k1c2) (by decide +kernel) rfl rfl rfl (by decide +kernel)
set_option maxRecDepth 65536 in
theorem w_c1 : (Jvm.Cond.code ({ cls := "com/example/ogma/ogma/interpret/QueryClassOfPinLaw", name := "draw", desc := "(IZ)I" } : Jvm.MethodName) method_2_code (2 : Nat) (Option.some Jvm.ClassFile.FieldType.int)).before args0 about1 = true := code_word (m := ⟨1, 1⟩) (meth := k1m1) (c := k1c1) (by decide +kernel) rfl rfl rfl (by decide +kernel)
set_option maxRecDepth 65536 in
theorem w_c2 : (Jvm.Cond.code ({ cls := "com/example/ogma/ogma/interpret/QueryClass", name := "of", desc := "(III)Lcom/example/ogma/ogma/interpret/QueryClass;" } : Jvm.MethodName) prog_25_method_5_code (4 : Nat) (Option.some (Jvm.ClassFile.FieldType.object "com/example/ogma/ogma/interpret/QueryClass"))).before args0 about1 = true := code_word (m := ⟨6, 0⟩) (meth := k6m0) (c := k6c0) (by decide +kernel) rfl rfl rfl (by decide +kernel)
def codes1 : List Jvm.Cond := [Jvm.Cond.code x code maxLocals ret, Jvm.Cond.code ({ cls := "com/example/ogma/ogma/interpret/QueryClassOfPinLaw", name := "draw", desc := "(IZ)I" } : Jvm.MethodName) method_2_code (2 : Nat) (Option.some Jvm.ClassFile.FieldType.int), Jvm.Cond.code ({ cls := "com/example/ogma/ogma/interpret/QueryClass", name := "of", desc := "(III)Lcom/example/ogma/ogma/interpret/QueryClass;" } : Jvm.MethodName) prog_25_method_5_code (4 : Nat) (Option.some (Jvm.ClassFile.FieldType.object "com/example/ogma/ogma/interpret/QueryClass"))]
set_option maxRecDepth 65536 in
theorem codes_eq : words1.filter isCode = codes1 := rfl
theorem w_codes : ∀ c ∈ words1.filter isCode, c.before args0 about1 = true := by
  rw [codes_eq]
  intro c hc
  simp only [codes1, List.mem_cons, List.not_mem_nil, or_false] at hc
  rcases hc with rfl | rfl | rfl
  · exact w_c0
  · exact w_c1
  · exact w_c2
set_option maxRecDepth 65536 in
theorem w_t1 : (words1.take 24).all (fun c => isCode c || c.before args0 about1) = true := by decide +kernel
set_option maxRecDepth 65536 in
theorem w_t2 : (words1.drop 24).all (fun c => isCode c || c.before args0 about1) = true := by decide +kernel
theorem w_tables : (allAtoms (Jvm.Cond.code x code maxLocals ret :: tables_1)).before args0 about1 = true := by
  rw [allAtoms_all]
  show words1.all (fun c => c.before args0 about1) = true
  refine all_split ?_ w_codes
  rw [← List.take_append_drop 24 words1, List.all_append, w_t1, w_t2]
  rfl
set_option maxRecDepth 65536 in
theorem w_case : (Jvm.Cond.and given_1 narrow_1).before args0 about1 = true := by decide +kernel
theorem w_applies : (headSpec (Jvm.Cond.code x code maxLocals ret :: tables_1) room_1).applies x e0.platform about1 = true :=
  (Spec.applies_iff w_frames).mpr ⟨w_running, w_runnable, w_alone, w_named, w_hears, w_ripe, w_room, w_tables⟩
theorem atStart : AtStart classFile x code maxLocals ret World_1 tables_1 room_1 Calls_1 rest_1 Pre_1 launch0 p0 e0 about1 theMethod args0 below0 :=
  ⟨lists_1, trivial, launch0.admits_env _ _ _, launch0.least_env, fairChoices_fair.cas, fairChoices_fair.clock, w_frames, w_args, w_heap, w_applies, trivial, trivial, w_case⟩
end start1
theorem witness_1 : WitnessClaimed_1 := ⟨start1.p0, start1.e0, start1.about1, start1.theMethod, start1.args0, start1.below0, start1.atStart⟩
end Jvm.Pilot.@@N@@
