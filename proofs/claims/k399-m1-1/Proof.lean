import JvmDerived
import JvmDerived.Pilot.@@N@@Statement
import JvmDerived.Pilot.@@N@@Code
set_option linter.unusedVariables false
set_option linter.unusedSimpArgs false
namespace Jvm.RoadKit
open Sem ClassFile Op Lib Jvm.Stand Jvm.Free Jvm.LawKit
section New
variable {p : Program} {l : Launch} {e : Env} {R : Room} {s : State} {m : MethodId} {args : Array Value} {below : List Frame} {meth : Method} {c : Code} {T : State} {locs : List Loc} {cells slots : Nat}
theorem retI (X : Stand p l e R s m args below meth c T locs cells slots) (hx : p.tables.exec = Jvm.exec) {pc : Nat} {Ls : Array Slot} {z : Int32} {rest : List Value} (hret : meth.sig.returnType = some .int) (hd : decode c.code pc = .ok (.ireturn, 1)) {fs : List Frame}
    (hl : ∀ (f : JFrame) (acts : List Action), f.method = m → f.locked = none → f.entered = [] → (doReturn e (T.setTop f) acts (some (.int z))).1 = T.setFrames fs) : Steps p.tables e below (T.setTop (mkF m pc Ls (.int z :: rest))) (T.setFrames fs) := by
  have hm' : T.vm.method? m = some meth := X.method'
  have hn : narrow .int (.int z) = .int z := rfl
  show Steps p.tables e below (T.setTop { method := m, pc := pc, locals := Ls, stack := _ :: rest, locked := none }) _
  jvm_step X.here [X.here.top, hx, hd, hm', hret, hn]
  first | (intro acts; rw [hl _ acts rfl rfl rfl]) | rw [hl _ _ rfl rfl rfl]
  exact Steps.refl _
end New
end Jvm.RoadKit
namespace Jvm.Pilot.@@N@@
open Jvm Jvm.ClassFile Sem Op Lib Jvm.Free Jvm.Stand Jvm.LawKit Jvm.RoadKit Bundle Jvm.Pilot.@@N@@.Jvm.D
theorem own_irem (x y : Int32) : x - (x / y) * y = x % y := by
  apply Int32.toInt_inj.mp
  have a := (x % y).toInt_lt; have b := (x % y).le_toInt
  rw [Int32.toInt_mod] at a b ⊢
  rw [Int32.toInt_sub, Int32.toInt_mul, Int32.toInt_div, Int.bmod_mul_bmod, Int.sub_bmod_bmod, Int.mul_comm, ← Int.tmod_def]
  exact Int.bmod_eq_of_le (by omega) (by omega)
theorem own_ns_exa {Z : State} {h : Heap} {a : Addr} {C : String} (F : Exa Z h a C) : ∀ c : Cell, h[a]? = some c → c.vm.isStatics = false := fun c hc => by
  obtain ⟨cell, k, h1, -, -, h4, -⟩ := F
  cases h1.symm.trans hc; exact h4
theorem own_sta_keep {Z : State} {h h' : Heap} {C n d : String} {v : Value} {ws : List Addr} (F : Sta Z h C n d v) (K : Keep h h' ws) (q : ∀ x ∈ ws, ∀ c : Cell, h[x]? = some c → c.vm.isStatics = false) : Sta Z h' C n d v := by
  obtain ⟨cf, i, k, f, st, cell, h1, h2, h3, h4, h5, h6, h7⟩ := F
  refine ⟨cf, i, k, f, st, cell, h1, h2, h3, h4, K.2.1 st cell h5 (fun hm => ?_), h6, h7⟩
  rw [q st hm cell h5] at h6; cases h6
theorem own_selp {s : State} {args : Array Value} {C : String} {z y : MethodName} (hs : (Jvm.Cond.selects C z z).before args s = true) (hzy : z.cls = y.cls) (hp : s.PrivateAt y) (hi : (Jvm.Cond.instanceMethod y).before args s = true) (hy : y.cls ≠ "java/lang/invoke/MethodHandle" ∧ y.cls ≠ "java/lang/invoke/VarHandle") : (Jvm.Cond.selects y.cls y y).before args s = true := by
  obtain ⟨c2, r2, m2, q1, q2, q3, q4, kP, hkP, hkPi⟩ := Cond.selects_spec hs
  have hc : s.vm.findClass y.cls = some m2.cls := by rw [← hzy]; exact findClass_of_methodNamed q3
  exact Stand.selects_self_of_private hc hkP hkPi hp hi hy
theorem own_acopy {p : Program} {l : Launch} {e : Env} {R : Room} {s : State} {m : MethodId} {args : Array Value} {below : List Frame} {meth : Method} {c : Code} {T : State} {locs : List Loc} {cells slots : Nat} {Z : State} {h : Heap}
    (X : Stand p l e R s m args below meth c T locs cells slots) (hx : p.tables.exec = Jvm.exec) (hZ : Z.Warmed39 s.vm) {own : String} {index : Nat} (hown : s.vm.findClass own = some m.cls) (hw : ∀ w ∈ XT.acW own index, w.before args s = true) (eT : T.heap = h)
    {a b : Addr} {ka kb : ClassId} {z n : Int32} {vs : List Value} (VA : Arv Z h a ka .byte z vs (.int 0)) (VB : Arv Z h b kb .byte n [] (.int 0)) (hn : n = Int32.ofNat vs.length) (hz : vs.length ≤ z.toNatClampNeg) (hl : vs.length < 2 ^ 31)
    {g : JFrame} (hg : g.method = m) (hsize : g.locals.size = c.maxLocals) {rest : List Value} (hstack : g.stack = .int n :: .int 0 :: .ref b :: .int 0 :: .ref a :: rest) (hdg : decode c.code g.pc = .ok (.invokestatic index, 3))
    {W : Nat} (hW : 2 * g.monitorRoom + (rest.map fun v => v.category).sum ≤ W) (hfr : 1 ≤ R.frames) (hlo : W + 40 ≤ R.locals) :
    ∃ (T' : State) (h' : Heap), Stand p l e R s m args below meth c T' (locs ++ copyLocs b 0 vs.length) cells slots ∧ T'.heap = h' ∧ Keep h h' [b] ∧ Arv Z h' b kb .byte n vs (.int 0) ∧
      ∀ target, Steps p.tables e below (T'.setTop { g with pc := g.pc + 3, stack := rest }) target → Steps p.tables e below (T.setTop g) target := by
  obtain ⟨A, ArA, kcA, SA, MA, HA, GA⟩ := VA
  obtain ⟨B, ArB, kcB, SB, MB, HB, GB⟩ := VB
  have sA : A.slots.size < 2 ^ 31 := by rw [SA]; show z.toInt.toNat < _; have := z.toInt_lt; omega
  have nb : n.toNatClampNeg = vs.length := by rw [hn]; exact XT.n32 hl
  have sB : B.slots.size = vs.length := by rw [SB, nb]
  have hAT : XT.Arr .byte a A T := ⟨by rw [eT]; exact ArA.1, State.isArrayOf_alike (hZ.alike.trans X.warmed.alike) ArA.2.1, ArA.2.2, sA⟩
  have hBT : XT.Arr .byte b B T := ⟨by rw [eT]; exact ArB.1, State.isArrayOf_alike (hZ.alike.trans X.warmed.alike) ArB.2.1, ArB.2.2, by rw [sB]; exact hl⟩
  have hat : ∀ i, i < vs.length → A.slots.getD i .null = vs.getD i (.int 0) := fun i hi => by
    have q := HA i (by rw [SA]; omega)
    simp [Array.getD_eq_getD_getElem?, q]
  obtain ⟨T', B', X', P, bc, bv, bs, bg, st⟩ := X.acopy hx hown hw hAT hBT rfl (o := 0) (q := 0) (n := vs.length) rfl rfl hn (by rw [SA]; omega) (by rw [sB]; omega)
    (fun i hi => ⟨by rw [Nat.zero_add, hat i hi]; exact GA i (by rw [SA]; omega), fun q => by cases q⟩) hg hsize hstack hdg hW hfr hlo
  refine ⟨T', T'.heap, X', rfl, ⟨by rw [P.2.2, eT]; exact Nat.le_refl _, fun x cx q r => ?_, fun x cx q => ?_⟩, ⟨B', ⟨P.1, ?_, ?_⟩, bc.trans kcB, by rw [bs, SB], MB, fun i hi => ?_, fun i hi => ?_⟩, st⟩
  · rw [P.2.1 x (fun e => r (by rw [e]; exact List.mem_singleton.mpr rfl)), eT]; exact q
  · by_cases e : x = b
    · subst e
      cases ArB.1.symm.trans q
      exact ⟨B', P.1, bc, bv, bs⟩
    · exact ⟨cx, by rw [P.2.1 x e, eT]; exact q, rfl, rfl, rfl⟩
  · obtain ⟨o1, k1, o2, o3, o4⟩ := ArB.2.1
    exact ⟨fun y hy => o1 y (by rw [← bv]; exact hy), k1, by rw [bc]; exact o2, o3, o4⟩
  · rw [bv]; exact ArB.2.2
  · rw [bs, sB] at hi
    rw [bg i, if_pos ⟨Nat.zero_le _, by omega⟩]
    simp only [Nat.sub_zero, Nat.zero_add]
    rw [hat i hi]
  · rw [bs, sB] at hi
    exact GA i (by rw [SA]; omega)
theorem own_n3 {n : Int32} {l : Nat} (hn : n = Int32.ofNat l) (hv : l ≤ 3) : ¬ n < 0 ∧ n.toNatClampNeg ≤ 3 ∧ ¬ n = (512 : Int32) ∧ n < (512 : Int32) ∧ n.toNatClampNeg = l := by
  have h : l = 0 ∨ l = 1 ∨ l = 2 ∨ l = 3 := by omega
  subst hn
  rcases h with rfl | rfl | rfl | rfl <;> decide +kernel
theorem own_app (vs : List Value) (a b : Value) : (vs ++ [a]).set vs.length b = vs ++ [b] := by
  induction vs with
  | nil => rfl
  | cons x t ih => simp only [List.cons_append, List.length_cons, List.set_cons_succ, ih]
theorem own_nar (q : Int32) : nar .byte (q.toInt8.toInt32) = q.toInt8.toInt32 := by
  show (q.toInt8.toInt32).toInt8.toInt32 = _
  simp
theorem own_k3 (p : Int32) : (p &&& (3 : Int32)) = 0 ∨ (p &&& (3 : Int32)) = 1 ∨ (p &&& (3 : Int32)) = 2 ∨ (p &&& (3 : Int32)) = 3 := by
  have h1 := c_mask p 3 2 (by decide) (by decide)
  have v : ((2 ^ 2 : Nat) : Int) = 4 := by decide
  rw [v] at h1
  have z0 : (0 : Int32).toInt = 0 := by decide
  have z1 : (1 : Int32).toInt = 1 := by decide
  have z2 : (2 : Int32).toInt = 2 := by decide
  have z3 : (3 : Int32).toInt = 3 := by decide
  simp only [← Int32.toInt_inj, z0, z1, z2, z3]
  rw [h1]; omega
theorem own_v7 (p : Int32) : ¬ (p &&& (127 : Int32)).toInt64 < (0 : Int64) ∧ ¬ (127 : Int64) < (p &&& (127 : Int32)).toInt64 := by
  have h1 := c_mask p 127 7 (by decide) (by decide)
  have v : ((2 ^ 7 : Nat) : Int) = 128 := by decide
  rw [v] at h1
  have z0 : (0 : Int64).toInt = 0 := by decide
  have z1 : (127 : Int64).toInt = 127 := by decide
  rw [Int64.lt_iff_toInt_lt, Int64.lt_iff_toInt_lt, c_i2l, h1, z0, z1]
  omega
theorem own_rt (v : Int32) : v.toInt64.toInt32.toInt8.toInt32 = v.toInt8.toInt32 := by simp
theorem own_frc {n0 : Nat} {b : Addr} (h : n0 ≤ b) (n : Nat) : Fr n0 (copyLocs b 0 n) := fun y hy => by
  have q := copyLocs_base hy
  rw [q]; exact h
theorem dmin_0 : decode jdk_29_method_69_code 0 = .ok (.iload_n 0, 1) := by decide +kernel
theorem dmin_1 : decode jdk_29_method_69_code 1 = .ok (.iload_n 1, 1) := by decide +kernel
theorem dmin_2 : decode jdk_29_method_69_code 2 = .ok (.if_icmp .gt 7, 3) := by decide +kernel
theorem dmin_9 : decode jdk_29_method_69_code 9 = .ok (.iload_n 1, 1) := by decide +kernel
theorem dmin_10 : decode jdk_29_method_69_code 10 = .ok (.ireturn, 1) := by decide +kernel
theorem pn_min : plainFor (⟨"java/lang/Math", "min", "(II)I"⟩ : MethodName) = true := by decide +kernel
theorem ef_min (m : MethodId) (p1 : Int32) (p2 : Int32) : entryFrame m #[(.int p1), (.int p2)] 2 = (mkF m 0 #[.val (.int p1), .val (.int p2)] []) := by first | (simp [entryFrame, mkF, argsToLocals, Value.category]; done) | rfl
def Q_min (Z : State) (p1 p2 : Int32) (h0 : Heap) (n0 : Nat) (v : Option Value) (h : Heap) (L : List Loc) : Prop := v = some (.int p2) ∧ Fr n0 L ∧ h = h0
set_option maxRecDepth 65536 in
set_option maxHeartbeats 40000000 in
theorem rm_min (l : Launch) (Z : State) (a0 : Array Value) (hw : ∀ d ∈ tables_1, d.before a0 Z = true) (ws : List Jvm.Cond) (p1 p2 : Int32) (h0 : Heap) (n0 : Nat) (Z0 : n0 ≤ h0.size) (hm : p2 < p1) :
    MetFree l (⟨"java/lang/Math", "min", "(II)I"⟩ : MethodName) (head1 (Jvm.Cond.code (⟨"java/lang/Math", "min", "(II)I"⟩ : MethodName) jdk_29_method_69_code 2 (some .int) :: ws) ({ frames := 0, cells := 0, slots := 0, locals := 0 } : Room)) (fun a U => a = #[(.int p1), (.int p2)] ∧ Z.Warmed39 U.vm ∧ U.heap = h0) (fun _ _ _ _ _ => True) (fun _ U o U' => ∃ v L, o = .returned v ∧ Q_min Z p1 p2 h0 n0 v U'.heap L ∧ FrameEnd U o U' L ({ frames := 0, cells := 0, slots := 0, locals := 0 } : Room).cells ({ frames := 0, cells := 0, slots := 0, locals := 0 } : Room).slots) := by
  refine MetFree.of_bodySF pn_min hisR ?_
  intro p e s m args below meth c s₁ Bd hml0 hP hK
  obtain ⟨rfl, hZ, hh⟩ := hP
  have hx := Bd.exec
  have hby := Bd.bytes
  have hml : c.maxLocals = 2 := hml0
  have hown : s.vm.findClass "java/lang/Math" = some m.cls := findClass_of_methodNamed Bd.named
  have hnm := (name_of_methodNamed Bd.named Bd.method).1
  have X0 : Stand p l e ({ frames := 0, cells := 0, slots := 0, locals := 0 } : Room) s m #[(.int p1), (.int p2)] below meth c s₁ [] 0 0 := Stand.of_body Bd
  have e0 : s₁.heap = h0 := by rw [← hh, Bd.state]; rfl
  have N0 := Fr.nil n0
  have pre0 : ∀ t, Steps p.tables e below (s₁.setTop (mkF m 0 #[.val (.int p1), .val (.int p2)] [])) t → Steps p.tables e below (s₁.setTop (entryFrame m #[(.int p1), (.int p2)] 2)) t := fun t k => castTop (ef_min m p1 p2) k
  have pre2 : ∀ t, Steps p.tables e below (s₁.setTop (mkF m 10 #[.val (.int p1), .val (.int p2)] [(.int p2)])) t → Steps p.tables e below (s₁.setTop (entryFrame m #[(.int p1), (.int p2)] 2)) t := fun t k => pre0 t (by
    show Steps p.tables e below (s₁.setTop (mkF m 0 #[.val (.int p1), .val (.int p2)] [])) _
    refine XS.iloadN X0.here hx rfl (hb hby dmin_0) rfl ?_
    show Steps p.tables e below (s₁.setTop (mkF m 1 #[.val (.int p1), .val (.int p2)] [(.int p1)])) _
    refine XS.iloadN X0.here hx rfl (hb hby dmin_1) rfl ?_
    show Steps p.tables e below (s₁.setTop (mkF m 2 #[.val (.int p1), .val (.int p2)] [(.int p2), (.int p1)])) _
    refine XS.icmpYes X0.here hx rfl (pc0 := 2) (pc' := 9) rfl (hb hby dmin_2) rfl (XT.ii_gt_t hm) (by decide) (by decide) ?_
    show Steps p.tables e below (s₁.setTop (mkF m 9 #[.val (.int p1), .val (.int p2)] [])) _
    refine XS.iloadN X0.here hx rfl (hb hby dmin_9) rfl ?_
    show Steps p.tables e below (s₁.setTop (mkF m 10 #[.val (.int p1), .val (.int p2)] [(.int p2)])) _
    exact k)
  obtain ⟨fs, hr, hrun, hended, hW, hsame⟩ := X0.leave (v := some (.int p2)) (fun h => by rw [Bd.returns] at h; cases h)
  refine ⟨_, _, pre2 _ ?_, hrun, hended, _, _, rfl, ?_, ⟨_, rfl⟩, hW, hsame.mono (by decide) (by decide)⟩
  · exact retI X0 hx Bd.returns (hb hby dmin_10) hr
  · show Q_min Z p1 p2 h0 n0 _ s₁.heap _
    rw [e0]
    exact ⟨rfl, N0, rfl⟩
theorem dcpo_0 : decode jdk_65_method_121_code 0 = .ok (.iload_n 1, 1) := by decide +kernel
theorem dcpo_1 : decode jdk_65_method_121_code 1 = .ok (.aload_n 0, 1) := by decide +kernel
theorem dcpo_2 : decode jdk_65_method_121_code 2 = .ok (.arraylength, 1) := by decide +kernel
theorem dcpo_3 : decode jdk_65_method_121_code 3 = .ok (.if_icmp .ne 11, 3) := by decide +kernel
theorem dcpo_14 : decode jdk_65_method_121_code 14 = .ok (.iload_n 1, 1) := by decide +kernel
theorem dcpo_15 : decode jdk_65_method_121_code 15 = .ok (.newarray .byte, 2) := by decide +kernel
theorem dcpo_17 : decode jdk_65_method_121_code 17 = .ok (.astore_n 2, 1) := by decide +kernel
theorem dcpo_18 : decode jdk_65_method_121_code 18 = .ok (.aload_n 0, 1) := by decide +kernel
theorem dcpo_19 : decode jdk_65_method_121_code 19 = .ok (.iconst 0, 1) := by decide +kernel
theorem dcpo_20 : decode jdk_65_method_121_code 20 = .ok (.aload_n 2, 1) := by decide +kernel
theorem dcpo_21 : decode jdk_65_method_121_code 21 = .ok (.iconst 0, 1) := by decide +kernel
theorem dcpo_22 : decode jdk_65_method_121_code 22 = .ok (.aload_n 0, 1) := by decide +kernel
theorem dcpo_23 : decode jdk_65_method_121_code 23 = .ok (.arraylength, 1) := by decide +kernel
theorem dcpo_24 : decode jdk_65_method_121_code 24 = .ok (.iload_n 1, 1) := by decide +kernel
theorem dcpo_25 : decode jdk_65_method_121_code 25 = .ok (.invokestatic 304, 3) := by decide +kernel
theorem dcpo_28 : decode jdk_65_method_121_code 28 = .ok (.invokestatic 150, 3) := by decide +kernel
theorem dcpo_31 : decode jdk_65_method_121_code 31 = .ok (.aload_n 2, 1) := by decide +kernel
theorem dcpo_32 : decode jdk_65_method_121_code 32 = .ok (.areturn, 1) := by decide +kernel
theorem pd__II_I : parseMethodDescriptor "(II)I" = some ⟨[.int, .int], some .int⟩ := by decide +kernel
theorem pn_cpo : plainName "java/util/Arrays" = true := by first | (simp [plainName, overriddenIn]; done) | decide +kernel
theorem ef_cpo (m : MethodId) (b1 : Addr) (n : Int32) : entryFrame m #[(.ref b1), (.int n)] 3 = (mkF m 0 #[.val (.ref b1), .val (.int n), .unset] []) := by first | (simp [entryFrame, mkF, argsToLocals, Value.category]; done) | rfl
def Q_cpo (Z : State) (b1 : Addr) (n : Int32) (k : ClassId) (vs : List Value) (h0 : Heap) (n0 : Nat) (v : Option Value) (h : Heap) (L : List Loc) : Prop := ∃ (br : Addr) (kr : ClassId), v = some (.ref br) ∧ Fr n0 L ∧ Keep h0 h [] ∧ n0 ≤ br ∧ h0.size ≤ br ∧ Arv Z h br kr .byte n vs (.int (0 : Int32))
set_option maxRecDepth 65536 in
set_option maxHeartbeats 40000000 in
theorem rm_cpo (l : Launch) (Z : State) (a0 : Array Value) (hw : ∀ d ∈ tables_1, d.before a0 Z = true) (ws : List Jvm.Cond) (b1 : Addr) (n : Int32) (k : ClassId) (vs : List Value) (h0 : Heap) (n0 : Nat) (Z0 : n0 ≤ h0.size) (V1 : Arv Z h0 b1 k .byte (512 : Int32) vs (.int (0 : Int32))) (hn : n = Int32.ofNat vs.length) (hv : vs.length ≤ 3) :
    MetFree l (⟨"java/util/Arrays", "copyOf", "([BI)[B"⟩ : MethodName) (head1 (Jvm.Cond.code (⟨"java/util/Arrays", "copyOf", "([BI)[B"⟩ : MethodName) jdk_65_method_121_code 3 (some (.array .byte)) :: ws) ({ frames := 1, cells := 1, slots := 3, locals := 40 } : Room)) (fun a U => a = #[(.ref b1), (.int n)] ∧ Z.Warmed39 U.vm ∧ U.heap = h0) (fun _ _ _ _ _ => True) (fun _ U o U' => ∃ v L, o = .returned v ∧ Q_cpo Z b1 n k vs h0 n0 v U'.heap L ∧ FrameEnd U o U' L ({ frames := 1, cells := 1, slots := 3, locals := 40 } : Room).cells ({ frames := 1, cells := 1, slots := 3, locals := 40 } : Room).slots) := by
  refine MetFree.of_bodySF (plainFor_of_name pn_cpo) hisR ?_
  intro p e s m args below meth c s₁ Bd hml0 hP hK
  obtain ⟨rfl, hZ, hh⟩ := hP
  have hx := Bd.exec
  have hby := Bd.bytes
  have hml : c.maxLocals = 3 := hml0
  have hown : s.vm.findClass "java/util/Arrays" = some m.cls := findClass_of_methodNamed Bd.named
  have hnm := (name_of_methodNamed Bd.named Bd.method).1
  have X0 : Stand p l e ({ frames := 1, cells := 1, slots := 3, locals := 40 } : Room) s m #[(.ref b1), (.int n)] below meth c s₁ [] 0 0 := Stand.of_body Bd
  have e0 : s₁.heap = h0 := by rw [← hh, Bd.state]; rfl
  have N0 := Fr.nil n0
  have pre0 : ∀ t, Steps p.tables e below (s₁.setTop (mkF m 0 #[.val (.ref b1), .val (.int n), .unset] [])) t → Steps p.tables e below (s₁.setTop (entryFrame m #[(.ref b1), (.int n)] 3)) t := fun t k => castTop (ef_cpo m b1 n) k
  have K2 : Keep h0 h0 [] := Keep.refl h0 []
  have hB := own_n3 hn hv
  obtain ⟨cl3, Ar3, kc3, S3, M3, H3, G3⟩ := id V1
  have pre4 : ∀ t, Steps p.tables e below (s₁.setTop (mkF m 15 #[.val (.ref b1), .val (.int n), .unset] [(.int n)])) t → Steps p.tables e below (s₁.setTop (entryFrame m #[(.ref b1), (.int n)] 3)) t := fun t k => pre0 t (by
    show Steps p.tables e below (s₁.setTop (mkF m 0 #[.val (.ref b1), .val (.int n), .unset] [])) _
    refine XS.iloadN X0.here hx rfl (hb hby dcpo_0) rfl ?_
    show Steps p.tables e below (s₁.setTop (mkF m 1 #[.val (.ref b1), .val (.int n), .unset] [(.int n)])) _
    refine XS.aloadN X0.here hx rfl (hb hby dcpo_1) rfl rfl ?_
    show Steps p.tables e below (s₁.setTop (mkF m 2 #[.val (.ref b1), .val (.int n), .unset] [(.ref b1), (.int n)])) _
    refine X0.arraylength hx (cell := cl3) (by rw [e0]; exact Ar3.1) (State.isArrayOf_alike hZ.alike Ar3.2.1) (g := (mkF m 2 #[.val (.ref b1), .val (.int n), .unset] [(.ref b1), (.int n)])) rfl (rest := [(.int n)]) rfl (hb hby dcpo_2) _ ?_
    rw [len_of S3 M3]
    show Steps p.tables e below (s₁.setTop (mkF m 3 #[.val (.ref b1), .val (.int n), .unset] [(.int (512 : Int32)), (.int n)])) _
    refine XS.icmpYes X0.here hx rfl (pc0 := 3) (pc' := 14) rfl (hb hby dcpo_3) rfl (XT.ii_ne_t hB.2.2.1) (by decide) (by decide) ?_
    show Steps p.tables e below (s₁.setTop (mkF m 14 #[.val (.ref b1), .val (.int n), .unset] [])) _
    refine XS.iloadN X0.here hx rfl (hb hby dcpo_14) rfl ?_
    show Steps p.tables e below (s₁.setTop (mkF m 15 #[.val (.ref b1), .val (.int n), .unset] [(.int n)])) _
    exact k)
  obtain ⟨T5, h5, k5, X5, e5, E5, A5, st5⟩ := newP X0 hx hZ (hw _ (List.mem_of_getElem? (i := 9) rfl)) e0 (g := (mkF m 15 #[.val (.ref b1), .val (.int n), .unset] [(.int n)])) rfl (hb hby dcpo_15) rfl hB.1 (cap := 3) hB.2.1 (by decide) (by decide) (by decide)
  obtain ⟨b5, g5⟩ : ∃ z, z = h0.size := ⟨_, rfl⟩
  rw [← g5] at A5 st5
  have ne_b1_b5 : b1 ≠ b5 := Nat.ne_of_lt (Nat.lt_of_lt_of_eq V1.lt g5.symm)
  have g_b5 : n0 ≤ b5 := Nat.le_trans Z0 (Nat.le_of_eq g5.symm)
  have sz_b5 : h0.size ≤ b5 := Nat.le_trans K2.1 (Nat.le_of_eq g5.symm)
  have Z5 : n0 ≤ h5.size := Nat.le_trans Z0 E5.1
  have f6_0 := V1.ext E5
  have K7 := K2.ext E5
  have V5 := Arv.new A5 hB.1
  obtain ⟨cl8, Ar8, kc8, S8, M8, H8, G8⟩ := id f6_0
  have pre9 : ∀ t, Steps p.tables e below (T5.setTop (mkF m 25 #[.val (.ref b1), .val (.int n), .val (.ref b5)] [(.int n), (.int (512 : Int32)), (.int (0 : Int32)), (.ref b5), (.int (0 : Int32)), (.ref b1)])) t → Steps p.tables e below (s₁.setTop (entryFrame m #[(.ref b1), (.int n)] 3)) t := fun t k => pre4 t (by
    show Steps p.tables e below (s₁.setTop (mkF m 15 #[.val (.ref b1), .val (.int n), .unset] [(.int n)])) _
    refine st5 _ ?_
    show Steps p.tables e below (T5.setTop (mkF m 17 #[.val (.ref b1), .val (.int n), .unset] [(.ref b5)])) _
    refine XS.astoreN X5.here hx rfl (hb hby dcpo_17) rfl rfl (l' := #[.val (.ref b1), .val (.int n), .val (.ref b5)]) rfl ?_
    show Steps p.tables e below (T5.setTop (mkF m 18 #[.val (.ref b1), .val (.int n), .val (.ref b5)] [])) _
    refine XS.aloadN X5.here hx rfl (hb hby dcpo_18) rfl rfl ?_
    show Steps p.tables e below (T5.setTop (mkF m 19 #[.val (.ref b1), .val (.int n), .val (.ref b5)] [(.ref b1)])) _
    refine XS.iconst X5.here hx rfl (hb hby dcpo_19) ?_
    show Steps p.tables e below (T5.setTop (mkF m 20 #[.val (.ref b1), .val (.int n), .val (.ref b5)] [(.int (0 : Int32)), (.ref b1)])) _
    refine XS.aloadN X5.here hx rfl (hb hby dcpo_20) rfl rfl ?_
    show Steps p.tables e below (T5.setTop (mkF m 21 #[.val (.ref b1), .val (.int n), .val (.ref b5)] [(.ref b5), (.int (0 : Int32)), (.ref b1)])) _
    refine XS.iconst X5.here hx rfl (hb hby dcpo_21) ?_
    show Steps p.tables e below (T5.setTop (mkF m 22 #[.val (.ref b1), .val (.int n), .val (.ref b5)] [(.int (0 : Int32)), (.ref b5), (.int (0 : Int32)), (.ref b1)])) _
    refine XS.aloadN X5.here hx rfl (hb hby dcpo_22) rfl rfl ?_
    show Steps p.tables e below (T5.setTop (mkF m 23 #[.val (.ref b1), .val (.int n), .val (.ref b5)] [(.ref b1), (.int (0 : Int32)), (.ref b5), (.int (0 : Int32)), (.ref b1)])) _
    refine X5.arraylength hx (cell := cl8) (by rw [e5]; exact Ar8.1) (State.isArrayOf_alike hZ.alike Ar8.2.1) (g := (mkF m 23 #[.val (.ref b1), .val (.int n), .val (.ref b5)] [(.ref b1), (.int (0 : Int32)), (.ref b5), (.int (0 : Int32)), (.ref b1)])) rfl (rest := [(.int (0 : Int32)), (.ref b5), (.int (0 : Int32)), (.ref b1)]) rfl (hb hby dcpo_23) _ ?_
    rw [len_of S8 M8]
    show Steps p.tables e below (T5.setTop (mkF m 24 #[.val (.ref b1), .val (.int n), .val (.ref b5)] [(.int (512 : Int32)), (.int (0 : Int32)), (.ref b5), (.int (0 : Int32)), (.ref b1)])) _
    refine XS.iloadN X5.here hx rfl (hb hby dcpo_24) rfl ?_
    show Steps p.tables e below (T5.setTop (mkF m 25 #[.val (.ref b1), .val (.int n), .val (.ref b5)] [(.int n), (.int (512 : Int32)), (.int (0 : Int32)), (.ref b5), (.int (0 : Int32)), (.ref b1)])) _
    exact k)
  obtain ⟨_, _, ⟨T10, L10, kk10, nn10⟩, -, X10, ⟨Lc10, hQ10, l10, y10, z10⟩, st10⟩ := Jvm.LawKit.callS X5 hx (y := (⟨"java/lang/Math", "min", "(II)I"⟩ : MethodName)) hown (mvT hZ (hw _ (List.mem_of_getElem? (i := 23) rfl))) (mvT hZ (hw _ (List.mem_of_getElem? (i := 24) rfl))) (mvT hZ (hw _ (List.mem_of_getElem? (i := 25) rfl))) (mvT hZ (hw _ (List.mem_of_getElem? (i := 26) rfl))) (by decide) (backOf (W := 4) (rm_min l Z a0 hw [] (512 : Int32) n h5 n0 Z5 hB.2.2.2.1) hZ (hw _ (List.mem_of_getElem? (i := 26) rfl)) (hw _ (List.mem_of_getElem? (i := 25) rfl)) (by decide) (by decide)) (g := (mkF m 25 #[.val (.ref b1), .val (.int n), .val (.ref b5)] [(.int n), (.int (512 : Int32)), (.int (0 : Int32)), (.ref b5), (.int (0 : Int32)), (.ref b1)])) rfl (by rw [hml]; rfl) (argsL := [(.int (512 : Int32)), (.int n)]) (rest := [(.int (0 : Int32)), (.ref b5), (.int (0 : Int32)), (.ref b1)]) (lenOf pd__II_I rfl) rfl (by show 2 * 0 + _ ≤ _; exact Nat.le_of_eq rfl) (hb hby dcpo_25) (fun _ _ => ⟨rfl, e5, (by decide : 1 + 0 ≤ _), (by decide : 3 + 0 ≤ _)⟩)
  dsimp only [Pt.U, Pt.locs, Pt.cells, Pt.slots] at X10 l10 y10 z10 st10 hQ10
  subst l10 y10 z10
  obtain ⟨rfl, N10q, eq10⟩ := hQ10
  have N10 := Fr.app N0 N10q
  have pre11 : ∀ t, Steps p.tables e below (T10.setTop (mkF m 28 #[.val (.ref b1), .val (.int n), .val (.ref b5)] [(.int n), (.int (0 : Int32)), (.ref b5), (.int (0 : Int32)), (.ref b1)])) t → Steps p.tables e below (s₁.setTop (entryFrame m #[(.ref b1), (.int n)] 3)) t := fun t k => pre9 t (by
    show Steps p.tables e below (T5.setTop (mkF m 25 #[.val (.ref b1), .val (.int n), .val (.ref b5)] [(.int n), (.int (512 : Int32)), (.int (0 : Int32)), (.ref b5), (.int (0 : Int32)), (.ref b1)])) _
    refine st10 _ ?_
    show Steps p.tables e below (T10.setTop (mkF m 28 #[.val (.ref b1), .val (.int n), .val (.ref b5)] [(.int n), (.int (0 : Int32)), (.ref b5), (.int (0 : Int32)), (.ref b1)])) _
    exact k)
  have hac : ∀ w ∈ XT.acW "java/util/Arrays" 150, w.before #[(.ref b1), (.int n)] s = true := by
    intro w hq
    simp only [XT.acW, List.mem_cons, List.not_mem_nil, or_false] at hq
    rcases hq with rfl | rfl | rfl | rfl
    · exact mvT hZ (hw _ (List.mem_of_getElem? (i := 27) rfl))
    · exact mvT hZ (hw _ (List.mem_of_getElem? (i := 30) rfl))
    · exact mvT hZ (hw _ (List.mem_of_getElem? (i := 28) rfl))
    · exact mvT hZ (hw _ (List.mem_of_getElem? (i := 29) rfl))
  obtain ⟨T12, h12, X12, e12, Kc12, V12, st12⟩ := own_acopy X10 hx hZ (own := "java/util/Arrays") (index := 150) hown hac eq10 f6_0 V5 hn (Nat.le_trans hv (by decide)) (Nat.lt_of_le_of_lt hv (by decide)) (g := (mkF m 28 #[.val (.ref b1), .val (.int n), .val (.ref b5)] [(.int n), (.int (0 : Int32)), (.ref b5), (.int (0 : Int32)), (.ref b1)])) rfl (by rw [hml]; rfl) (rest := []) rfl (hb hby dcpo_28) (W := 0) (by show 2 * 0 + _ ≤ _; exact Nat.le_of_eq rfl) (by decide) (by decide)
  have N12 := Fr.app N10 (own_frc g_b5 vs.length)
  have K12 := K7.trans Kc12 (fun x hx => by cases List.mem_singleton.mp hx; exact (Or.inr sz_b5))
  have pre13 : ∀ t, Steps p.tables e below (T12.setTop (mkF m 32 #[.val (.ref b1), .val (.int n), .val (.ref b5)] [(.ref b5)])) t → Steps p.tables e below (s₁.setTop (entryFrame m #[(.ref b1), (.int n)] 3)) t := fun t k => pre11 t (by
    show Steps p.tables e below (T10.setTop (mkF m 28 #[.val (.ref b1), .val (.int n), .val (.ref b5)] [(.int n), (.int (0 : Int32)), (.ref b5), (.int (0 : Int32)), (.ref b1)])) _
    refine st12 _ ?_
    show Steps p.tables e below (T12.setTop (mkF m 31 #[.val (.ref b1), .val (.int n), .val (.ref b5)] [])) _
    refine XS.aloadN X12.here hx rfl (hb hby dcpo_31) rfl rfl ?_
    show Steps p.tables e below (T12.setTop (mkF m 32 #[.val (.ref b1), .val (.int n), .val (.ref b5)] [(.ref b5)])) _
    exact k)
  obtain ⟨fs, hr, hrun, hended, hW, hsame⟩ := X12.leave (v := some (.ref b5)) (fun h => by rw [Bd.returns] at h; cases h)
  refine ⟨_, _, pre13 _ ?_, hrun, hended, _, _, rfl, ?_, ⟨_, rfl⟩, hW, hsame.mono (by decide) (by decide)⟩
  · show Steps p.tables e below (T12.setTop (mkF m 32 #[.val (.ref b1), .val (.int n), .val (.ref b5)] [(.ref b5)])) _
    jvm_step X12.here [X12.here.top, hx, (hb hby dcpo_32), X12.method', Bd.returns, Value.isRef, FieldType.isReference]
    first | (intro acts; rw [hr _ acts rfl rfl rfl]) | rw [hr _ _ rfl rfl rfl]
    exact Steps.refl _
  · show Q_cpo Z b1 n k vs h0 n0 _ T12.heap _
    rw [e12]
    exact ⟨b5, k5, rfl, N12, K12, g_b5, sz_b5, V12⟩
theorem dtba_0 : decode prog_13_method_8_code 0 = .ok (.aload_n 0, 1) := by decide +kernel
theorem dtba_1 : decode prog_13_method_8_code 1 = .ok (.getfield 7, 3) := by decide +kernel
theorem dtba_4 : decode prog_13_method_8_code 4 = .ok (.aload_n 0, 1) := by decide +kernel
theorem dtba_5 : decode prog_13_method_8_code 5 = .ok (.getfield 72, 3) := by decide +kernel
theorem dtba_8 : decode prog_13_method_8_code 8 = .ok (.invokestatic 76, 3) := by decide +kernel
theorem dtba_11 : decode prog_13_method_8_code 11 = .ok (.areturn, 1) := by decide +kernel
theorem pd___BI__B : parseMethodDescriptor "([BI)[B" = some ⟨[(.array .byte), .int], some (.array .byte)⟩ := by decide +kernel
theorem pn_tba : plainName "com/example/spanfacet/spanfacet/MsgpackWriter" = true := by first | (simp [plainName, overriddenIn]; done) | decide +kernel
theorem ef_tba (m : MethodId) (a1 : Addr) : entryFrame m #[(.ref a1)] 1 = (mkF m 0 #[.val (.ref a1)] []) := by first | (simp [entryFrame, mkF, argsToLocals, Value.category]; done) | rfl
def Q_tba (Z : State) (a1 b1 : Addr) (n : Int32) (k : ClassId) (vs : List Value) (h0 : Heap) (n0 : Nat) (v : Option Value) (h : Heap) (L : List Loc) : Prop := ∃ (br : Addr) (kr : ClassId), v = some (.ref br) ∧ Fr n0 L ∧ Keep h0 h [] ∧ n0 ≤ br ∧ h0.size ≤ br ∧ Arv Z h br kr .byte n vs (.int (0 : Int32))
set_option maxRecDepth 65536 in
set_option maxHeartbeats 40000000 in
theorem rm_tba (l : Launch) (Z : State) (a0 : Array Value) (hw : ∀ d ∈ tables_1, d.before a0 Z = true) (ws : List Jvm.Cond) (a1 b1 : Addr) (n : Int32) (k : ClassId) (vs : List Value) (h0 : Heap) (n0 : Nat) (Z0 : n0 ≤ h0.size) (F1 : Fld Z h0 a1 "com/example/spanfacet/spanfacet/MsgpackWriter" "buffer" "[B" (.ref b1)) (F2 : Fld Z h0 a1 "com/example/spanfacet/spanfacet/MsgpackWriter" "size" "I" (.int n)) (V1 : Arv Z h0 b1 k .byte (512 : Int32) vs (.int (0 : Int32))) (hn : n = Int32.ofNat vs.length) (hv : vs.length ≤ 3) :
    MetFree l (⟨"com/example/spanfacet/spanfacet/MsgpackWriter", "toByteArray", "()[B"⟩ : MethodName) (head1 (Jvm.Cond.code (⟨"com/example/spanfacet/spanfacet/MsgpackWriter", "toByteArray", "()[B"⟩ : MethodName) prog_13_method_8_code 1 (some (.array .byte)) :: ws) ({ frames := 2, cells := 1, slots := 3, locals := 54 } : Room)) (fun a U => a = #[(.ref a1)] ∧ Z.Warmed39 U.vm ∧ U.heap = h0) (fun _ _ _ _ _ => True) (fun _ U o U' => ∃ v L, o = .returned v ∧ Q_tba Z a1 b1 n k vs h0 n0 v U'.heap L ∧ FrameEnd U o U' L ({ frames := 2, cells := 1, slots := 3, locals := 54 } : Room).cells ({ frames := 2, cells := 1, slots := 3, locals := 54 } : Room).slots) := by
  refine MetFree.of_bodySF (plainFor_of_name pn_tba) hisR ?_
  intro p e s m args below meth c s₁ Bd hml0 hP hK
  obtain ⟨rfl, hZ, hh⟩ := hP
  have hx := Bd.exec
  have hby := Bd.bytes
  have hml : c.maxLocals = 1 := hml0
  have hown : s.vm.findClass "com/example/spanfacet/spanfacet/MsgpackWriter" = some m.cls := findClass_of_methodNamed Bd.named
  have hnm := (name_of_methodNamed Bd.named Bd.method).1
  have X0 : Stand p l e ({ frames := 2, cells := 1, slots := 3, locals := 54 } : Room) s m #[(.ref a1)] below meth c s₁ [] 0 0 := Stand.of_body Bd
  have e0 : s₁.heap = h0 := by rw [← hh, Bd.state]; rfl
  have N0 := Fr.nil n0
  have pre0 : ∀ t, Steps p.tables e below (s₁.setTop (mkF m 0 #[.val (.ref a1)] [])) t → Steps p.tables e below (s₁.setTop (entryFrame m #[(.ref a1)] 1)) t := fun t k => castTop (ef_tba m a1) k
  have pre2 : ∀ t, Steps p.tables e below (s₁.setTop (mkF m 1 #[.val (.ref a1)] [(.ref a1)])) t → Steps p.tables e below (s₁.setTop (entryFrame m #[(.ref a1)] 1)) t := fun t k => pre0 t (by
    show Steps p.tables e below (s₁.setTop (mkF m 0 #[.val (.ref a1)] [])) _
    refine XS.aloadN X0.here hx rfl (hb hby dtba_0) rfl rfl ?_
    show Steps p.tables e below (s₁.setTop (mkF m 1 #[.val (.ref a1)] [(.ref a1)])) _
    exact k)
  obtain ⟨T3, X3, e3, st3⟩ := getF X0 hx hZ hown (host := "") (Or.inl (hw _ (List.mem_of_getElem? (i := 10) rfl))) Via.refl e0 F1 (g := (mkF m 1 #[.val (.ref a1)] [(.ref a1)])) rfl rfl (hb hby dtba_1)
  have pre4 : ∀ t, Steps p.tables e below (T3.setTop (mkF m 5 #[.val (.ref a1)] [(.ref a1), (.ref b1)])) t → Steps p.tables e below (s₁.setTop (entryFrame m #[(.ref a1)] 1)) t := fun t k => pre2 t (by
    show Steps p.tables e below (s₁.setTop (mkF m 1 #[.val (.ref a1)] [(.ref a1)])) _
    refine st3 _ ?_
    show Steps p.tables e below (T3.setTop (mkF m 4 #[.val (.ref a1)] [(.ref b1)])) _
    refine XS.aloadN X3.here hx rfl (hb hby dtba_4) rfl rfl ?_
    show Steps p.tables e below (T3.setTop (mkF m 5 #[.val (.ref a1)] [(.ref a1), (.ref b1)])) _
    exact k)
  obtain ⟨T5, X5, e5, st5⟩ := getF X3 hx hZ hown (host := "") (Or.inl (hw _ (List.mem_of_getElem? (i := 17) rfl))) Via.refl e3 F2 (g := (mkF m 5 #[.val (.ref a1)] [(.ref a1), (.ref b1)])) rfl rfl (hb hby dtba_5)
  have pre6 : ∀ t, Steps p.tables e below (T5.setTop (mkF m 8 #[.val (.ref a1)] [(.int n), (.ref b1)])) t → Steps p.tables e below (s₁.setTop (entryFrame m #[(.ref a1)] 1)) t := fun t k => pre4 t (by
    show Steps p.tables e below (T3.setTop (mkF m 5 #[.val (.ref a1)] [(.ref a1), (.ref b1)])) _
    refine st5 _ ?_
    show Steps p.tables e below (T5.setTop (mkF m 8 #[.val (.ref a1)] [(.int n), (.ref b1)])) _
    exact k)
  obtain ⟨_, _, ⟨T7, L7, kk7, nn7⟩, -, X7, ⟨Lc7, hQ7, l7, y7, z7⟩, st7⟩ := Jvm.LawKit.callS X5 hx (y := (⟨"java/util/Arrays", "copyOf", "([BI)[B"⟩ : MethodName)) hown (mvT hZ (hw _ (List.mem_of_getElem? (i := 19) rfl))) (mvT hZ (hw _ (List.mem_of_getElem? (i := 20) rfl))) (mvT hZ (hw _ (List.mem_of_getElem? (i := 21) rfl))) (mvT hZ (hw _ (List.mem_of_getElem? (i := 22) rfl))) (by decide) (backOf (W := 0) (rm_cpo l Z a0 hw [] b1 n k vs h0 n0 Z0 V1 hn hv) hZ (hw _ (List.mem_of_getElem? (i := 22) rfl)) (hw _ (List.mem_of_getElem? (i := 21) rfl)) (by decide) (by decide)) (g := (mkF m 8 #[.val (.ref a1)] [(.int n), (.ref b1)])) rfl (by rw [hml]; rfl) (argsL := [(.ref b1), (.int n)]) (rest := []) (lenOf pd___BI__B rfl) rfl (by show 2 * 0 + _ ≤ _; exact Nat.le_of_eq rfl) (hb hby dtba_8) (fun _ _ => ⟨rfl, e5, (by decide : 0 + 1 ≤ _), (by decide : 0 + 3 ≤ _)⟩)
  dsimp only [Pt.U, Pt.locs, Pt.cells, Pt.slots] at X7 l7 y7 z7 st7 hQ7
  subst l7 y7 z7
  obtain ⟨br7, kr7, rfl, N7q, Kc7, g_br7, sr7, Vr7⟩ := hQ7
  have N7 := Fr.app N0 N7q
  have f8_0 := F1.keep Kc7 (by simp)
  have f8_1 := F2.keep Kc7 (by simp)
  have f8_2 := V1.keep Kc7 (by simp)
  have Z7 : n0 ≤ T7.heap.size := Nat.le_trans Z0 Kc7.1
  have e7 : T7.heap = T7.heap := rfl
  have ne_a1_br7 : a1 ≠ br7 := Nat.ne_of_lt (Nat.lt_of_lt_of_le F1.lt sr7)
  have ne_b1_br7 : b1 ≠ br7 := Nat.ne_of_lt (Nat.lt_of_lt_of_le V1.lt sr7)
  have pre9 : ∀ t, Steps p.tables e below (T7.setTop (mkF m 11 #[.val (.ref a1)] [(.ref br7)])) t → Steps p.tables e below (s₁.setTop (entryFrame m #[(.ref a1)] 1)) t := fun t k => pre6 t (by
    show Steps p.tables e below (T5.setTop (mkF m 8 #[.val (.ref a1)] [(.int n), (.ref b1)])) _
    refine st7 _ ?_
    show Steps p.tables e below (T7.setTop (mkF m 11 #[.val (.ref a1)] [(.ref br7)])) _
    exact k)
  obtain ⟨fs, hr, hrun, hended, hW, hsame⟩ := X7.leave (v := some (.ref br7)) (fun h => by rw [Bd.returns] at h; cases h)
  refine ⟨_, _, pre9 _ ?_, hrun, hended, _, _, rfl, ?_, ⟨_, rfl⟩, hW, hsame.mono (by decide) (by decide)⟩
  · show Steps p.tables e below (T7.setTop (mkF m 11 #[.val (.ref a1)] [(.ref br7)])) _
    jvm_step X7.here [X7.here.top, hx, (hb hby dtba_11), X7.method', Bd.returns, Value.isRef, FieldType.isReference]
    first | (intro acts; rw [hr _ acts rfl rfl rfl]) | rw [hr _ _ rfl rfl rfl]
    exact Steps.refl _
  · show Q_tba Z a1 b1 n k vs h0 n0 _ T7.heap _
    skip
    exact ⟨br7, kr7, rfl, N7, Kc7, g_br7, sr7, Vr7⟩
theorem dini_0 : decode prog_13_method_1_code 0 = .ok (.aload_n 0, 1) := by decide +kernel
theorem dini_1 : decode prog_13_method_1_code 1 = .ok (.invokespecial 1, 3) := by decide +kernel
theorem dini_4 : decode prog_13_method_1_code 4 = .ok (.aload_n 0, 1) := by decide +kernel
theorem dini_5 : decode prog_13_method_1_code 5 = .ok (.sipush 512, 3) := by decide +kernel
theorem dini_8 : decode prog_13_method_1_code 8 = .ok (.newarray .byte, 2) := by decide +kernel
theorem dini_10 : decode prog_13_method_1_code 10 = .ok (.putfield 7, 3) := by decide +kernel
theorem dini_13 : decode prog_13_method_1_code 13 = .ok (.return_, 1) := by decide +kernel
theorem pn_ini : plainName "com/example/spanfacet/spanfacet/MsgpackWriter" = true := by first | (simp [plainName, overriddenIn]; done) | decide +kernel
theorem ef_ini (m : MethodId) (a1 : Addr) : entryFrame m #[(.ref a1)] 1 = (mkF m 0 #[.val (.ref a1)] []) := by first | (simp [entryFrame, mkF, argsToLocals, Value.category]; done) | rfl
def Q_ini (Z : State) (a1 : Addr) (u0 : Value) (h0 : Heap) (n0 : Nat) (v : Option Value) (h : Heap) (L : List Loc) : Prop := ∃ (bb : Addr) (kb : ClassId), v = none ∧ Fr n0 L ∧ Keep h0 h [a1] ∧ n0 ≤ bb ∧ h0.size ≤ bb ∧ Fld Z h a1 "com/example/spanfacet/spanfacet/MsgpackWriter" "buffer" "[B" (.ref bb) ∧ Fld Z h a1 "com/example/spanfacet/spanfacet/MsgpackWriter" "size" "I" (.int (0 : Int32)) ∧ Arv Z h bb kb .byte (512 : Int32) [] (.int (0 : Int32))
set_option maxRecDepth 65536 in
set_option maxHeartbeats 40000000 in
theorem rm_ini (l : Launch) (Z : State) (a0 : Array Value) (hw : ∀ d ∈ tables_1, d.before a0 Z = true) (ws : List Jvm.Cond) (a1 : Addr) (u0 : Value) (h0 : Heap) (n0 : Nat) (Z0 : n0 ≤ h0.size) (E1 : Exa Z h0 a1 "com/example/spanfacet/spanfacet/MsgpackWriter") (F1 : Fld Z h0 a1 "com/example/spanfacet/spanfacet/MsgpackWriter" "buffer" "[B" u0) (F2 : Fld Z h0 a1 "com/example/spanfacet/spanfacet/MsgpackWriter" "size" "I" (.int (0 : Int32))) (g_a1 : n0 ≤ a1) :
    MetFree l (⟨"com/example/spanfacet/spanfacet/MsgpackWriter", "<init>", "()V"⟩ : MethodName) (head1 (Jvm.Cond.code (⟨"com/example/spanfacet/spanfacet/MsgpackWriter", "<init>", "()V"⟩ : MethodName) prog_13_method_1_code 1 none :: ws) ({ frames := 1, cells := 1, slots := 512, locals := 12 } : Room)) (fun a U => a = #[(.ref a1)] ∧ Z.Warmed39 U.vm ∧ U.heap = h0) (fun _ _ _ _ _ => True) (fun _ U o U' => ∃ v L, o = .returned v ∧ Q_ini Z a1 u0 h0 n0 v U'.heap L ∧ FrameEnd U o U' L ({ frames := 1, cells := 1, slots := 512, locals := 12 } : Room).cells ({ frames := 1, cells := 1, slots := 512, locals := 12 } : Room).slots) := by
  refine MetFree.of_bodySF (plainFor_of_name pn_ini) hisR ?_
  intro p e s m args below meth c s₁ Bd hml0 hP hK
  obtain ⟨rfl, hZ, hh⟩ := hP
  have hx := Bd.exec
  have hby := Bd.bytes
  have hml : c.maxLocals = 1 := hml0
  have hown : s.vm.findClass "com/example/spanfacet/spanfacet/MsgpackWriter" = some m.cls := findClass_of_methodNamed Bd.named
  have hnm := (name_of_methodNamed Bd.named Bd.method).1
  have X0 : Stand p l e ({ frames := 1, cells := 1, slots := 512, locals := 12 } : Room) s m #[(.ref a1)] below meth c s₁ [] 0 0 := Stand.of_body Bd
  have e0 : s₁.heap = h0 := by rw [← hh, Bd.state]; rfl
  have N0 := Fr.nil n0
  have pre0 : ∀ t, Steps p.tables e below (s₁.setTop (mkF m 0 #[.val (.ref a1)] [])) t → Steps p.tables e below (s₁.setTop (entryFrame m #[(.ref a1)] 1)) t := fun t k => castTop (ef_ini m a1) k
  have K2 : Keep h0 h0 [a1] := Keep.refl h0 [a1]
  have pre3 : ∀ t, Steps p.tables e below (s₁.setTop (mkF m 1 #[.val (.ref a1)] [(.ref a1)])) t → Steps p.tables e below (s₁.setTop (entryFrame m #[(.ref a1)] 1)) t := fun t k => pre0 t (by
    show Steps p.tables e below (s₁.setTop (mkF m 0 #[.val (.ref a1)] [])) _
    refine XS.aloadN X0.here hx rfl (hb hby dini_0) rfl rfl ?_
    show Steps p.tables e below (s₁.setTop (mkF m 1 #[.val (.ref a1)] [(.ref a1)])) _
    exact k)
  obtain ⟨T4, X4, e4, st4⟩ := initO X0 hx hZ hown (hw _ (List.mem_of_getElem? (i := 6) rfl)) (hw _ (List.mem_of_getElem? (i := 7) rfl)) (hw _ (List.mem_of_getElem? (i := 8) rfl)) e0 (g := (mkF m 1 #[.val (.ref a1)] [(.ref a1)])) rfl (by rw [hml]; rfl) rfl (hb hby dini_1) (by decide) (W := 0) (by show 2 * 0 + _ ≤ _; exact Nat.le_of_eq rfl) (by decide)
  have pre5 : ∀ t, Steps p.tables e below (T4.setTop (mkF m 8 #[.val (.ref a1)] [(.int (512 : Int32)), (.ref a1)])) t → Steps p.tables e below (s₁.setTop (entryFrame m #[(.ref a1)] 1)) t := fun t k => pre3 t (by
    show Steps p.tables e below (s₁.setTop (mkF m 1 #[.val (.ref a1)] [(.ref a1)])) _
    refine st4 _ ?_
    show Steps p.tables e below (T4.setTop (mkF m 4 #[.val (.ref a1)] [])) _
    refine XS.aloadN X4.here hx rfl (hb hby dini_4) rfl rfl ?_
    show Steps p.tables e below (T4.setTop (mkF m 5 #[.val (.ref a1)] [(.ref a1)])) _
    refine XS.sipush X4.here hx rfl (hb hby dini_5) ?_
    show Steps p.tables e below (T4.setTop (mkF m 8 #[.val (.ref a1)] [(.int (512 : Int32)), (.ref a1)])) _
    exact k)
  obtain ⟨T6, h6, k6, X6, e6, E6, A6, st6⟩ := newP X4 hx hZ (hw _ (List.mem_of_getElem? (i := 9) rfl)) e4 (g := (mkF m 8 #[.val (.ref a1)] [(.int (512 : Int32)), (.ref a1)])) rfl (hb hby dini_8) rfl (by decide) (cap := 512) (by decide) (by decide) (by decide) (by decide)
  obtain ⟨b6, g6⟩ : ∃ z, z = h0.size := ⟨_, rfl⟩
  rw [← g6] at A6 st6
  have ne_a1_b6 : a1 ≠ b6 := Nat.ne_of_lt (Nat.lt_of_lt_of_eq E1.lt g6.symm)
  have g_b6 : n0 ≤ b6 := Nat.le_trans Z0 (Nat.le_of_eq g6.symm)
  have sz_b6 : h0.size ≤ b6 := Nat.le_trans K2.1 (Nat.le_of_eq g6.symm)
  have Z6 : n0 ≤ h6.size := Nat.le_trans Z0 E6.1
  have f7_0 := E1.ext E6
  have f7_1 := F1.ext E6
  have f7_2 := F2.ext E6
  have K8 := K2.ext E6
  have V6 := Arv.new A6 (by decide)
  have pre9 : ∀ t, Steps p.tables e below (T6.setTop (mkF m 10 #[.val (.ref a1)] [(.ref b6), (.ref a1)])) t → Steps p.tables e below (s₁.setTop (entryFrame m #[(.ref a1)] 1)) t := fun t k => pre5 t (by
    show Steps p.tables e below (T4.setTop (mkF m 8 #[.val (.ref a1)] [(.int (512 : Int32)), (.ref a1)])) _
    refine st6 _ ?_
    show Steps p.tables e below (T6.setTop (mkF m 10 #[.val (.ref a1)] [(.ref b6), (.ref a1)])) _
    exact k)
  obtain ⟨T10, h10, X10, e10, W10, st10⟩ := putF X6 hx hZ hown (host := "") (Or.inl (hw _ (List.mem_of_getElem? (i := 10) rfl))) Via.refl e6 f7_1 f7_0 (Or.inl (hw _ (List.mem_of_getElem? (i := 11) rfl))) (hw _ (List.mem_of_getElem? (i := 1) rfl)) (ty := (.array .byte)) (by decide) rfl rfl (g := (mkF m 10 #[.val (.ref a1)] [(.ref b6), (.ref a1)])) rfl rfl (hb hby dini_10)
  have F10 := f7_1.same W10
  have N10 := Fr.snoc X10 N0 g_a1
  have f11_0 := f7_0.wr W10
  have f11_2 := f7_2.other W10 (Or.inr (slot_ne (Or.inl (hw _ (List.mem_of_getElem? (i := 18) rfl))) (Or.inl (hw _ (List.mem_of_getElem? (i := 11) rfl))) (by decide) (t := .int) (t' := (.array .byte)) (by decide) (by decide)))
  have f11_3 := V6.other W10 ne_a1_b6.symm
  have K12 := K8.wr W10 (Or.inl (List.mem_of_getElem? (i := 0) rfl))
  have Z10 : n0 ≤ h10.size := Nat.le_trans Z6 (Keep.of_wr W10).1
  have pre13 : ∀ t, Steps p.tables e below (T10.setTop (mkF m 13 #[.val (.ref a1)] [])) t → Steps p.tables e below (s₁.setTop (entryFrame m #[(.ref a1)] 1)) t := fun t k => pre9 t (by
    show Steps p.tables e below (T6.setTop (mkF m 10 #[.val (.ref a1)] [(.ref b6), (.ref a1)])) _
    refine st10 _ ?_
    show Steps p.tables e below (T10.setTop (mkF m 13 #[.val (.ref a1)] [])) _
    exact k)
  obtain ⟨fs, hr, hrun, hended, hW, hsame⟩ := X10.leave (v := none) (fun _ => rfl)
  refine ⟨_, _, pre13 _ ?_, hrun, hended, _, _, rfl, ?_, ⟨_, rfl⟩, hW, hsame.mono (by decide) (by decide)⟩
  · exact X10.returnOut hx Bd.returns (hb hby dini_13) hr
  · show Q_ini Z a1 u0 h0 n0 _ T10.heap _
    rw [e10]
    exact ⟨b6, k6, rfl, N10, K12, g_b6, sz_b6, F10, f11_2, f11_3⟩
theorem dens_0 : decode prog_13_method_16_code 0 = .ok (.aload_n 0, 1) := by decide +kernel
theorem dens_1 : decode prog_13_method_16_code 1 = .ok (.getfield 7, 3) := by decide +kernel
theorem dens_4 : decode prog_13_method_16_code 4 = .ok (.arraylength, 1) := by decide +kernel
theorem dens_5 : decode prog_13_method_16_code 5 = .ok (.aload_n 0, 1) := by decide +kernel
theorem dens_6 : decode prog_13_method_16_code 6 = .ok (.getfield 72, 3) := by decide +kernel
theorem dens_9 : decode prog_13_method_16_code 9 = .ok (.isub, 1) := by decide +kernel
theorem dens_10 : decode prog_13_method_16_code 10 = .ok (.iload_n 1, 1) := by decide +kernel
theorem dens_11 : decode prog_13_method_16_code 11 = .ok (.if_icmp .ge 30, 3) := by decide +kernel
theorem dens_41 : decode prog_13_method_16_code 41 = .ok (.return_, 1) := by decide +kernel
theorem pn_ens : plainName "com/example/spanfacet/spanfacet/MsgpackWriter" = true := by first | (simp [plainName, overriddenIn]; done) | decide +kernel
theorem ef_ens (m : MethodId) (a1 : Addr) (q : Int32) : entryFrame m #[(.ref a1), (.int q)] 2 = (mkF m 0 #[.val (.ref a1), .val (.int q)] []) := by first | (simp [entryFrame, mkF, argsToLocals, Value.category]; done) | rfl
def Q_ens (Z : State) (a1 b1 : Addr) (q n : Int32) (k : ClassId) (vs : List Value) (h0 : Heap) (n0 : Nat) (v : Option Value) (h : Heap) (L : List Loc) : Prop := v = none ∧ Fr n0 L ∧ h = h0
set_option maxRecDepth 65536 in
set_option maxHeartbeats 40000000 in
theorem rm_ens (l : Launch) (Z : State) (a0 : Array Value) (hw : ∀ d ∈ tables_1, d.before a0 Z = true) (ws : List Jvm.Cond) (a1 b1 : Addr) (q n : Int32) (k : ClassId) (vs : List Value) (h0 : Heap) (n0 : Nat) (Z0 : n0 ≤ h0.size) (F1 : Fld Z h0 a1 "com/example/spanfacet/spanfacet/MsgpackWriter" "buffer" "[B" (.ref b1)) (F2 : Fld Z h0 a1 "com/example/spanfacet/spanfacet/MsgpackWriter" "size" "I" (.int n)) (V1 : Arv Z h0 b1 k .byte (512 : Int32) vs (.int (0 : Int32))) (hq : ¬ ((512 : Int32) - n) < q) :
    MetFree l (⟨"com/example/spanfacet/spanfacet/MsgpackWriter", "ensure", "(I)V"⟩ : MethodName) (head1 (Jvm.Cond.code (⟨"com/example/spanfacet/spanfacet/MsgpackWriter", "ensure", "(I)V"⟩ : MethodName) prog_13_method_16_code 2 none :: ws) ({ frames := 0, cells := 0, slots := 0, locals := 0 } : Room)) (fun a U => a = #[(.ref a1), (.int q)] ∧ Z.Warmed39 U.vm ∧ U.heap = h0) (fun _ _ _ _ _ => True) (fun _ U o U' => ∃ v L, o = .returned v ∧ Q_ens Z a1 b1 q n k vs h0 n0 v U'.heap L ∧ FrameEnd U o U' L ({ frames := 0, cells := 0, slots := 0, locals := 0 } : Room).cells ({ frames := 0, cells := 0, slots := 0, locals := 0 } : Room).slots) := by
  refine MetFree.of_bodySF (plainFor_of_name pn_ens) hisR ?_
  intro p e s m args below meth c s₁ Bd hml0 hP hK
  obtain ⟨rfl, hZ, hh⟩ := hP
  have hx := Bd.exec
  have hby := Bd.bytes
  have hml : c.maxLocals = 2 := hml0
  have hown : s.vm.findClass "com/example/spanfacet/spanfacet/MsgpackWriter" = some m.cls := findClass_of_methodNamed Bd.named
  have hnm := (name_of_methodNamed Bd.named Bd.method).1
  have X0 : Stand p l e ({ frames := 0, cells := 0, slots := 0, locals := 0 } : Room) s m #[(.ref a1), (.int q)] below meth c s₁ [] 0 0 := Stand.of_body Bd
  have e0 : s₁.heap = h0 := by rw [← hh, Bd.state]; rfl
  have N0 := Fr.nil n0
  have pre0 : ∀ t, Steps p.tables e below (s₁.setTop (mkF m 0 #[.val (.ref a1), .val (.int q)] [])) t → Steps p.tables e below (s₁.setTop (entryFrame m #[(.ref a1), (.int q)] 2)) t := fun t k => castTop (ef_ens m a1 q) k
  have pre2 : ∀ t, Steps p.tables e below (s₁.setTop (mkF m 1 #[.val (.ref a1), .val (.int q)] [(.ref a1)])) t → Steps p.tables e below (s₁.setTop (entryFrame m #[(.ref a1), (.int q)] 2)) t := fun t k => pre0 t (by
    show Steps p.tables e below (s₁.setTop (mkF m 0 #[.val (.ref a1), .val (.int q)] [])) _
    refine XS.aloadN X0.here hx rfl (hb hby dens_0) rfl rfl ?_
    show Steps p.tables e below (s₁.setTop (mkF m 1 #[.val (.ref a1), .val (.int q)] [(.ref a1)])) _
    exact k)
  obtain ⟨T3, X3, e3, st3⟩ := getF X0 hx hZ hown (host := "") (Or.inl (hw _ (List.mem_of_getElem? (i := 10) rfl))) Via.refl e0 F1 (g := (mkF m 1 #[.val (.ref a1), .val (.int q)] [(.ref a1)])) rfl rfl (hb hby dens_1)
  obtain ⟨cl4, Ar4, kc4, S4, M4, H4, G4⟩ := id V1
  have pre5 : ∀ t, Steps p.tables e below (T3.setTop (mkF m 6 #[.val (.ref a1), .val (.int q)] [(.ref a1), (.int (512 : Int32))])) t → Steps p.tables e below (s₁.setTop (entryFrame m #[(.ref a1), (.int q)] 2)) t := fun t k => pre2 t (by
    show Steps p.tables e below (s₁.setTop (mkF m 1 #[.val (.ref a1), .val (.int q)] [(.ref a1)])) _
    refine st3 _ ?_
    show Steps p.tables e below (T3.setTop (mkF m 4 #[.val (.ref a1), .val (.int q)] [(.ref b1)])) _
    refine X3.arraylength hx (cell := cl4) (by rw [e3]; exact Ar4.1) (State.isArrayOf_alike hZ.alike Ar4.2.1) (g := (mkF m 4 #[.val (.ref a1), .val (.int q)] [(.ref b1)])) rfl (rest := []) rfl (hb hby dens_4) _ ?_
    rw [len_of S4 M4]
    show Steps p.tables e below (T3.setTop (mkF m 5 #[.val (.ref a1), .val (.int q)] [(.int (512 : Int32))])) _
    refine XS.aloadN X3.here hx rfl (hb hby dens_5) rfl rfl ?_
    show Steps p.tables e below (T3.setTop (mkF m 6 #[.val (.ref a1), .val (.int q)] [(.ref a1), (.int (512 : Int32))])) _
    exact k)
  obtain ⟨T6, X6, e6, st6⟩ := getF X3 hx hZ hown (host := "") (Or.inl (hw _ (List.mem_of_getElem? (i := 17) rfl))) Via.refl e3 F2 (g := (mkF m 6 #[.val (.ref a1), .val (.int q)] [(.ref a1), (.int (512 : Int32))])) rfl rfl (hb hby dens_6)
  have pre7 : ∀ t, Steps p.tables e below (T6.setTop (mkF m 41 #[.val (.ref a1), .val (.int q)] [])) t → Steps p.tables e below (s₁.setTop (entryFrame m #[(.ref a1), (.int q)] 2)) t := fun t k => pre5 t (by
    show Steps p.tables e below (T3.setTop (mkF m 6 #[.val (.ref a1), .val (.int q)] [(.ref a1), (.int (512 : Int32))])) _
    refine st6 _ ?_
    show Steps p.tables e below (T6.setTop (mkF m 9 #[.val (.ref a1), .val (.int q)] [(.int n), (.int (512 : Int32))])) _
    refine XS.isub X6.here hx rfl (hb hby dens_9) rfl ?_
    show Steps p.tables e below (T6.setTop (mkF m 10 #[.val (.ref a1), .val (.int q)] [(.int ((512 : Int32) - n))])) _
    refine XS.iloadN X6.here hx rfl (hb hby dens_10) rfl ?_
    show Steps p.tables e below (T6.setTop (mkF m 11 #[.val (.ref a1), .val (.int q)] [(.int q), (.int ((512 : Int32) - n))])) _
    refine XS.icmpYes X6.here hx rfl (pc0 := 11) (pc' := 41) rfl (hb hby dens_11) rfl (XT.ii_ge_t hq) (by decide) (by decide) ?_
    show Steps p.tables e below (T6.setTop (mkF m 41 #[.val (.ref a1), .val (.int q)] [])) _
    exact k)
  obtain ⟨fs, hr, hrun, hended, hW, hsame⟩ := X6.leave (v := none) (fun _ => rfl)
  refine ⟨_, _, pre7 _ ?_, hrun, hended, _, _, rfl, ?_, ⟨_, rfl⟩, hW, hsame.mono (by decide) (by decide)⟩
  · exact X6.returnOut hx Bd.returns (hb hby dens_41) hr
  · show Q_ens Z a1 b1 q n k vs h0 n0 _ T6.heap _
    rw [e6]
    exact ⟨rfl, N0, rfl⟩
theorem own_ens {n : Int32} {l : Nat} (hn : n = Int32.ofNat l) (hv : l ≤ 2) : ¬ ((512 : Int32) - n) < (1 : Int32) := by
  have h : l = 0 ∨ l = 1 ∨ l = 2 := by omega
  subst hn
  rcases h with rfl | rfl | rfl <;> decide +kernel
theorem dby1_0 : decode prog_13_method_11_code 0 = .ok (.aload_n 0, 1) := by decide +kernel
theorem dby1_1 : decode prog_13_method_11_code 1 = .ok (.iconst 1, 1) := by decide +kernel
theorem dby1_2 : decode prog_13_method_11_code 2 = .ok (.invokevirtual 83, 3) := by decide +kernel
theorem dby1_5 : decode prog_13_method_11_code 5 = .ok (.aload_n 0, 1) := by decide +kernel
theorem dby1_6 : decode prog_13_method_11_code 6 = .ok (.getfield 7, 3) := by decide +kernel
theorem dby1_9 : decode prog_13_method_11_code 9 = .ok (.aload_n 0, 1) := by decide +kernel
theorem dby1_10 : decode prog_13_method_11_code 10 = .ok (.dup, 1) := by decide +kernel
theorem dby1_11 : decode prog_13_method_11_code 11 = .ok (.getfield 72, 3) := by decide +kernel
theorem dby1_14 : decode prog_13_method_11_code 14 = .ok (.dup_x1, 1) := by decide +kernel
theorem dby1_15 : decode prog_13_method_11_code 15 = .ok (.iconst 1, 1) := by decide +kernel
theorem dby1_16 : decode prog_13_method_11_code 16 = .ok (.iadd, 1) := by decide +kernel
theorem dby1_17 : decode prog_13_method_11_code 17 = .ok (.putfield 72, 3) := by decide +kernel
theorem dby1_20 : decode prog_13_method_11_code 20 = .ok (.iload_n 1, 1) := by decide +kernel
theorem dby1_21 : decode prog_13_method_11_code 21 = .ok (.i2b, 1) := by decide +kernel
theorem dby1_22 : decode prog_13_method_11_code 22 = .ok (.bastore, 1) := by decide +kernel
theorem dby1_23 : decode prog_13_method_11_code 23 = .ok (.return_, 1) := by decide +kernel
theorem pd__I_V : parseMethodDescriptor "(I)V" = some ⟨[.int], none⟩ := by decide +kernel
theorem pn_by1 : plainName "com/example/spanfacet/spanfacet/MsgpackWriter" = true := by first | (simp [plainName, overriddenIn]; done) | decide +kernel
theorem ef_by1 (m : MethodId) (a1 : Addr) (q : Int32) : entryFrame m #[(.ref a1), (.int q)] 2 = (mkF m 0 #[.val (.ref a1), .val (.int q)] []) := by first | (simp [entryFrame, mkF, argsToLocals, Value.category]; done) | rfl
def Q_by1 (Z : State) (a1 b1 : Addr) (q r n n1 : Int32) (k : ClassId) (vs : List Value) (h0 : Heap) (n0 : Nat) (v : Option Value) (h : Heap) (L : List Loc) : Prop := v = none ∧ Fr n0 L ∧ Keep h0 h [a1, b1] ∧ Fld Z h a1 "com/example/spanfacet/spanfacet/MsgpackWriter" "buffer" "[B" (.ref b1) ∧ Fld Z h a1 "com/example/spanfacet/spanfacet/MsgpackWriter" "size" "I" (.int n1) ∧ Arv Z h b1 k .byte (512 : Int32) (vs ++ [(.int r)]) (.int (0 : Int32))
set_option maxRecDepth 65536 in
set_option maxHeartbeats 40000000 in
theorem rm_by1 (l : Launch) (Z : State) (a0 : Array Value) (hw : ∀ d ∈ tables_1, d.before a0 Z = true) (ws : List Jvm.Cond) (a1 b1 : Addr) (q r n n1 : Int32) (k : ClassId) (vs : List Value) (h0 : Heap) (n0 : Nat) (Z0 : n0 ≤ h0.size) (E1 : Exa Z h0 a1 "com/example/spanfacet/spanfacet/MsgpackWriter") (F1 : Fld Z h0 a1 "com/example/spanfacet/spanfacet/MsgpackWriter" "buffer" "[B" (.ref b1)) (F2 : Fld Z h0 a1 "com/example/spanfacet/spanfacet/MsgpackWriter" "size" "I" (.int n)) (V1 : Arv Z h0 b1 k .byte (512 : Int32) vs (.int (0 : Int32))) (hn : n = Int32.ofNat vs.length) (hv : vs.length ≤ 2) (hn1 : n + (1 : Int32) = n1) (g_a1 : n0 ≤ a1) (g_b1 : n0 ≤ b1) (ne_a1_b1 : a1 ≠ b1) (hr : q.toInt8.toInt32 = r) :
    MetFree l (⟨"com/example/spanfacet/spanfacet/MsgpackWriter", "byte1", "(I)V"⟩ : MethodName) (head1 (Jvm.Cond.code (⟨"com/example/spanfacet/spanfacet/MsgpackWriter", "byte1", "(I)V"⟩ : MethodName) prog_13_method_11_code 2 none :: ws) ({ frames := 1, cells := 0, slots := 0, locals := 13 } : Room)) (fun a U => a = #[(.ref a1), (.int q)] ∧ Z.Warmed39 U.vm ∧ U.heap = h0) (fun _ _ _ _ _ => True) (fun _ U o U' => ∃ v L, o = .returned v ∧ Q_by1 Z a1 b1 q r n n1 k vs h0 n0 v U'.heap L ∧ FrameEnd U o U' L ({ frames := 1, cells := 0, slots := 0, locals := 13 } : Room).cells ({ frames := 1, cells := 0, slots := 0, locals := 13 } : Room).slots) := by
  refine MetFree.of_bodySF (plainFor_of_name pn_by1) hisR ?_
  intro p e s m args below meth c s₁ Bd hml0 hP hK
  obtain ⟨rfl, hZ, hh⟩ := hP
  have hx := Bd.exec
  have hby := Bd.bytes
  have hml : c.maxLocals = 2 := hml0
  have hown : s.vm.findClass "com/example/spanfacet/spanfacet/MsgpackWriter" = some m.cls := findClass_of_methodNamed Bd.named
  have hnm := (name_of_methodNamed Bd.named Bd.method).1
  have X0 : Stand p l e ({ frames := 1, cells := 0, slots := 0, locals := 13 } : Room) s m #[(.ref a1), (.int q)] below meth c s₁ [] 0 0 := Stand.of_body Bd
  have e0 : s₁.heap = h0 := by rw [← hh, Bd.state]; rfl
  have N0 := Fr.nil n0
  have pre0 : ∀ t, Steps p.tables e below (s₁.setTop (mkF m 0 #[.val (.ref a1), .val (.int q)] [])) t → Steps p.tables e below (s₁.setTop (entryFrame m #[(.ref a1), (.int q)] 2)) t := fun t k => castTop (ef_by1 m a1 q) k
  have K2 : Keep h0 h0 [a1, b1] := Keep.refl h0 [a1, b1]
  have hB := own_n3 hn (Nat.le_trans hv (by decide))
  have pre3 : ∀ t, Steps p.tables e below (s₁.setTop (mkF m 2 #[.val (.ref a1), .val (.int q)] [(.int (1 : Int32)), (.ref a1)])) t → Steps p.tables e below (s₁.setTop (entryFrame m #[(.ref a1), (.int q)] 2)) t := fun t k => pre0 t (by
    show Steps p.tables e below (s₁.setTop (mkF m 0 #[.val (.ref a1), .val (.int q)] [])) _
    refine XS.aloadN X0.here hx rfl (hb hby dby1_0) rfl rfl ?_
    show Steps p.tables e below (s₁.setTop (mkF m 1 #[.val (.ref a1), .val (.int q)] [(.ref a1)])) _
    refine XS.iconst X0.here hx rfl (hb hby dby1_1) ?_
    show Steps p.tables e below (s₁.setTop (mkF m 2 #[.val (.ref a1), .val (.int q)] [(.int (1 : Int32)), (.ref a1)])) _
    exact k)
  obtain ⟨cq4, q4a, q4b⟩ := E1.cell
  obtain ⟨_, _, ⟨T4, L4, kk4, nn4⟩, -, X4, ⟨Lc4, hQ4, l4, y4, z4⟩, st4⟩ := X0.privateBack hx (y := (⟨"com/example/spanfacet/spanfacet/MsgpackWriter", "ensure", "(I)V"⟩ : MethodName)) hown (mvT hZ (hw _ (List.mem_of_getElem? (i := 40) rfl))) (mvT hZ (hw _ (List.mem_of_getElem? (i := 41) rfl))) (own_selp (mvT hZ (hw _ (List.mem_of_getElem? (i := 15) rfl))) rfl (Cond.privateMethod_at (mvP hZ (hw _ (List.mem_of_getElem? (i := 42) rfl)) (args := #[]))) (mvT hZ (hw _ (List.mem_of_getElem? (i := 41) rfl))) (by decide)) (Cond.privateMethod_at (mvP hZ (hw _ (List.mem_of_getElem? (i := 42) rfl)) (args := #[]))) (mvT hZ (hw _ (List.mem_of_getElem? (i := 43) rfl))) (by decide) (backOf (W := 0) (rm_ens l Z a0 hw [] a1 b1 (1 : Int32) n k vs h0 n0 Z0 F1 F2 V1 (own_ens hn hv)) hZ (hw _ (List.mem_of_getElem? (i := 43) rfl)) (hw _ (List.mem_of_getElem? (i := 2) rfl)) (by decide) (by decide)) (g := (mkF m 2 #[.val (.ref a1), .val (.int q)] [(.int (1 : Int32)), (.ref a1)])) rfl (by rw [hml]; rfl) (Steps.refl _) (a := a1) (by rw [e0]; exact q4a) q4b (argsL := [(.int (1 : Int32))]) (rest := []) (lenOf pd__I_V rfl) rfl (by show 2 * 0 + _ ≤ _; exact Nat.le_of_eq rfl) (hb hby dby1_2) (fun _ _ => ⟨rfl, e0, (by decide : 0 + 0 ≤ _), (by decide : 0 + 0 ≤ _)⟩)
  dsimp only [Pt.U, Pt.locs, Pt.cells, Pt.slots] at X4 l4 y4 z4 st4 hQ4
  subst l4 y4 z4
  obtain ⟨rfl, N4q, eq4⟩ := hQ4
  have N4 := Fr.app N0 N4q
  have pre5 : ∀ t, Steps p.tables e below (T4.setTop (mkF m 6 #[.val (.ref a1), .val (.int q)] [(.ref a1)])) t → Steps p.tables e below (s₁.setTop (entryFrame m #[(.ref a1), (.int q)] 2)) t := fun t k => pre3 t (by
    show Steps p.tables e below (s₁.setTop (mkF m 2 #[.val (.ref a1), .val (.int q)] [(.int (1 : Int32)), (.ref a1)])) _
    refine st4.trans ?_
    show Steps p.tables e below (T4.setTop (mkF m 5 #[.val (.ref a1), .val (.int q)] [])) _
    refine XS.aloadN X4.here hx rfl (hb hby dby1_5) rfl rfl ?_
    show Steps p.tables e below (T4.setTop (mkF m 6 #[.val (.ref a1), .val (.int q)] [(.ref a1)])) _
    exact k)
  obtain ⟨T6, X6, e6, st6⟩ := getF X4 hx hZ hown (host := "") (Or.inl (hw _ (List.mem_of_getElem? (i := 10) rfl))) Via.refl eq4 F1 (g := (mkF m 6 #[.val (.ref a1), .val (.int q)] [(.ref a1)])) rfl rfl (hb hby dby1_6)
  have pre7 : ∀ t, Steps p.tables e below (T6.setTop (mkF m 11 #[.val (.ref a1), .val (.int q)] [(.ref a1), (.ref a1), (.ref b1)])) t → Steps p.tables e below (s₁.setTop (entryFrame m #[(.ref a1), (.int q)] 2)) t := fun t k => pre5 t (by
    show Steps p.tables e below (T4.setTop (mkF m 6 #[.val (.ref a1), .val (.int q)] [(.ref a1)])) _
    refine st6 _ ?_
    show Steps p.tables e below (T6.setTop (mkF m 9 #[.val (.ref a1), .val (.int q)] [(.ref b1)])) _
    refine XS.aloadN X6.here hx rfl (hb hby dby1_9) rfl rfl ?_
    show Steps p.tables e below (T6.setTop (mkF m 10 #[.val (.ref a1), .val (.int q)] [(.ref a1), (.ref b1)])) _
    refine XS.dup X6.here hx rfl (hb hby dby1_10) rfl rfl ?_
    show Steps p.tables e below (T6.setTop (mkF m 11 #[.val (.ref a1), .val (.int q)] [(.ref a1), (.ref a1), (.ref b1)])) _
    exact k)
  obtain ⟨T8, X8, e8, st8⟩ := getF X6 hx hZ hown (host := "") (Or.inl (hw _ (List.mem_of_getElem? (i := 17) rfl))) Via.refl e6 F2 (g := (mkF m 11 #[.val (.ref a1), .val (.int q)] [(.ref a1), (.ref a1), (.ref b1)])) rfl rfl (hb hby dby1_11)
  have pre9 : ∀ t, Steps p.tables e below (T8.setTop (mkF m 17 #[.val (.ref a1), .val (.int q)] [(.int n1), (.ref a1), (.int n), (.ref b1)])) t → Steps p.tables e below (s₁.setTop (entryFrame m #[(.ref a1), (.int q)] 2)) t := fun t k => pre7 t (by
    show Steps p.tables e below (T6.setTop (mkF m 11 #[.val (.ref a1), .val (.int q)] [(.ref a1), (.ref a1), (.ref b1)])) _
    refine st8 _ ?_
    show Steps p.tables e below (T8.setTop (mkF m 14 #[.val (.ref a1), .val (.int q)] [(.int n), (.ref a1), (.ref b1)])) _
    refine XT.dupX1 X8.here hx rfl (hb hby dby1_14) rfl rfl rfl ?_
    show Steps p.tables e below (T8.setTop (mkF m 15 #[.val (.ref a1), .val (.int q)] [(.int n), (.ref a1), (.int n), (.ref b1)])) _
    refine XS.iconst X8.here hx rfl (hb hby dby1_15) ?_
    show Steps p.tables e below (T8.setTop (mkF m 16 #[.val (.ref a1), .val (.int q)] [(.int (1 : Int32)), (.int n), (.ref a1), (.int n), (.ref b1)])) _
    refine XS.iadd X8.here hx rfl (hb hby dby1_16) rfl ?_
    show Steps p.tables e below (T8.setTop (mkF m 17 #[.val (.ref a1), .val (.int q)] [(.int (n + (1 : Int32))), (.ref a1), (.int n), (.ref b1)])) _
    rw [hn1]
    show Steps p.tables e below (T8.setTop (mkF m 17 #[.val (.ref a1), .val (.int q)] [(.int n1), (.ref a1), (.int n), (.ref b1)])) _
    exact k)
  obtain ⟨T10, h10, X10, e10, W10, st10⟩ := putF X8 hx hZ hown (host := "") (Or.inl (hw _ (List.mem_of_getElem? (i := 17) rfl))) Via.refl e8 F2 E1 (Or.inl (hw _ (List.mem_of_getElem? (i := 18) rfl))) (hw _ (List.mem_of_getElem? (i := 1) rfl)) (ty := .int) (by decide) rfl rfl (g := (mkF m 17 #[.val (.ref a1), .val (.int q)] [(.int n1), (.ref a1), (.int n), (.ref b1)])) rfl rfl (hb hby dby1_17)
  have F10 := F2.same W10
  have N10 := Fr.snoc X10 N4 g_a1
  have f11_0 := E1.wr W10
  have f11_1 := F1.other W10 (Or.inr (slot_ne (Or.inl (hw _ (List.mem_of_getElem? (i := 11) rfl))) (Or.inl (hw _ (List.mem_of_getElem? (i := 18) rfl))) (by decide) (t := (.array .byte)) (t' := .int) (by decide) (by decide)))
  have f11_3 := V1.other W10 ne_a1_b1.symm
  have K12 := K2.wr W10 (Or.inl (List.mem_of_getElem? (i := 0) rfl))
  have Z10 : n0 ≤ h10.size := Nat.le_trans Z0 (Keep.of_wr W10).1
  have V13 : Arv Z h10 b1 k .byte (512 : Int32) (vs ++ [(.int (0 : Int32))]) (.int (0 : Int32)) := f11_3.pad (pad_rep vs (.int (0 : Int32)) 1)
  have pre14 : ∀ t, Steps p.tables e below (T10.setTop (mkF m 22 #[.val (.ref a1), .val (.int q)] [(.int (q.toInt8.toInt32)), (.int n), (.ref b1)])) t → Steps p.tables e below (s₁.setTop (entryFrame m #[(.ref a1), (.int q)] 2)) t := fun t k => pre9 t (by
    show Steps p.tables e below (T8.setTop (mkF m 17 #[.val (.ref a1), .val (.int q)] [(.int n1), (.ref a1), (.int n), (.ref b1)])) _
    refine st10 _ ?_
    show Steps p.tables e below (T10.setTop (mkF m 20 #[.val (.ref a1), .val (.int q)] [(.int n), (.ref b1)])) _
    refine XS.iloadN X10.here hx rfl (hb hby dby1_20) rfl ?_
    show Steps p.tables e below (T10.setTop (mkF m 21 #[.val (.ref a1), .val (.int q)] [(.int q), (.int n), (.ref b1)])) _
    refine XT.i2b X10.here hx rfl (hb hby dby1_21) rfl ?_
    show Steps p.tables e below (T10.setTop (mkF m 22 #[.val (.ref a1), .val (.int q)] [(.int (q.toInt8.toInt32)), (.int n), (.ref b1)])) _
    exact k)
  obtain ⟨cl15, Ar15, kc15, S15, M15, H15, G15⟩ := id V13
  have hin15 := inb_of S15 (j := n) ⟨hB.1, hB.2.2.2.1⟩
  obtain ⟨T15, h15, X15, e15, W15, st15⟩ := stB X10 hx hZ e10 Ar15 (j := n) hin15 (g := (mkF m 22 #[.val (.ref a1), .val (.int q)] [(.int (q.toInt8.toInt32)), (.int n), (.ref b1)])) rfl rfl (hb hby dby1_22)
  have V15 : Arv Z h15 b1 k .byte (512 : Int32) ((vs ++ [(Value.int (0 : Int32))]).set vs.length (.int (nar .byte (q.toInt8.toInt32)))) (.int (0 : Int32)) := Arv.set Ar15 kc15 S15 M15 H15 G15 (v := (.int (nar .byte (q.toInt8.toInt32)))) (fits_nar_byte _) W15 vs.length hB.2.2.2.2 (by simp)
  have N15 := Fr.snoc X15 N10 g_b1
  have f16_0 := f11_0.wr W15
  have f16_1 := f11_1.other W15 (Or.inl ne_a1_b1)
  have f16_3 := F10.other W15 (Or.inl ne_a1_b1)
  have K17 := K12.wr W15 (Or.inl (List.mem_of_getElem? (i := 1) rfl))
  have Z15 : n0 ≤ h15.size := Nat.le_trans Z10 (Keep.of_wr W15).1
  rw [own_app, own_nar, hr] at V15
  have pre18 : ∀ t, Steps p.tables e below (T15.setTop (mkF m 23 #[.val (.ref a1), .val (.int q)] [])) t → Steps p.tables e below (s₁.setTop (entryFrame m #[(.ref a1), (.int q)] 2)) t := fun t k => pre14 t (by
    show Steps p.tables e below (T10.setTop (mkF m 22 #[.val (.ref a1), .val (.int q)] [(.int (q.toInt8.toInt32)), (.int n), (.ref b1)])) _
    refine st15 _ ?_
    show Steps p.tables e below (T15.setTop (mkF m 23 #[.val (.ref a1), .val (.int q)] [])) _
    exact k)
  obtain ⟨fs, hr, hrun, hended, hW, hsame⟩ := X15.leave (v := none) (fun _ => rfl)
  refine ⟨_, _, pre18 _ ?_, hrun, hended, _, _, rfl, ?_, ⟨_, rfl⟩, hW, hsame.mono (by decide) (by decide)⟩
  · exact X15.returnOut hx Bd.returns (hb hby dby1_23) hr
  · show Q_by1 Z a1 b1 q r n n1 k vs h0 n0 _ T15.heap _
    rw [e15]
    exact ⟨rfl, N15, K17, f16_1, f16_3, V15⟩
theorem dbl_0 : decode prog_13_method_7_code 0 = .ok (.aload_n 0, 1) := by decide +kernel
theorem dbl_1 : decode prog_13_method_7_code 1 = .ok (.iload_n 1, 1) := by decide +kernel
theorem dbl_2 : decode prog_13_method_7_code 2 = .ok (.ifCond .eq 9, 3) := by decide +kernel
theorem dbl_5 : decode prog_13_method_7_code 5 = .ok (.sipush 195, 3) := by decide +kernel
theorem dbl_8 : decode prog_13_method_7_code 8 = .ok (.goto 6, 3) := by decide +kernel
theorem dbl_11 : decode prog_13_method_7_code 11 = .ok (.sipush 194, 3) := by decide +kernel
theorem dbl_14 : decode prog_13_method_7_code 14 = .ok (.invokevirtual 29, 3) := by decide +kernel
theorem dbl_17 : decode prog_13_method_7_code 17 = .ok (.return_, 1) := by decide +kernel
theorem pn_bl : plainName "com/example/spanfacet/spanfacet/MsgpackWriter" = true := by first | (simp [plainName, overriddenIn]; done) | decide +kernel
theorem ef_bl (m : MethodId) (a1 : Addr) (q : Int32) : entryFrame m #[(.ref a1), (.int q)] 2 = (mkF m 0 #[.val (.ref a1), .val (.int q)] []) := by first | (simp [entryFrame, mkF, argsToLocals, Value.category]; done) | rfl
def Q_bl (Z : State) (a1 b1 : Addr) (q r n n1 : Int32) (k : ClassId) (vs : List Value) (h0 : Heap) (n0 : Nat) (v : Option Value) (h : Heap) (L : List Loc) : Prop := v = none ∧ Fr n0 L ∧ Keep h0 h [a1, b1] ∧ Fld Z h a1 "com/example/spanfacet/spanfacet/MsgpackWriter" "buffer" "[B" (.ref b1) ∧ Fld Z h a1 "com/example/spanfacet/spanfacet/MsgpackWriter" "size" "I" (.int n1) ∧ Arv Z h b1 k .byte (512 : Int32) (vs ++ [(.int r)]) (.int (0 : Int32))
set_option maxRecDepth 65536 in
set_option maxHeartbeats 40000000 in
theorem rm_bl (l : Launch) (Z : State) (a0 : Array Value) (hw : ∀ d ∈ tables_1, d.before a0 Z = true) (ws : List Jvm.Cond) (a1 b1 : Addr) (q r n n1 : Int32) (k : ClassId) (vs : List Value) (h0 : Heap) (n0 : Nat) (Z0 : n0 ≤ h0.size) (E1 : Exa Z h0 a1 "com/example/spanfacet/spanfacet/MsgpackWriter") (F1 : Fld Z h0 a1 "com/example/spanfacet/spanfacet/MsgpackWriter" "buffer" "[B" (.ref b1)) (F2 : Fld Z h0 a1 "com/example/spanfacet/spanfacet/MsgpackWriter" "size" "I" (.int n)) (V1 : Arv Z h0 b1 k .byte (512 : Int32) vs (.int (0 : Int32))) (hn : n = Int32.ofNat vs.length) (hv : vs.length ≤ 2) (hn1 : n + (1 : Int32) = n1) (g_a1 : n0 ≤ a1) (g_b1 : n0 ≤ b1) (ne_a1_b1 : a1 ≠ b1) (hr : (q = 0 → r = (-62 : Int32)) ∧ (¬ q = 0 → r = (-61 : Int32))) :
    MetFree l (⟨"com/example/spanfacet/spanfacet/MsgpackWriter", "bool", "(Z)V"⟩ : MethodName) (head1 (Jvm.Cond.code (⟨"com/example/spanfacet/spanfacet/MsgpackWriter", "bool", "(Z)V"⟩ : MethodName) prog_13_method_7_code 2 none :: ws) ({ frames := 2, cells := 0, slots := 0, locals := 26 } : Room)) (fun a U => a = #[(.ref a1), (.int q)] ∧ Z.Warmed39 U.vm ∧ U.heap = h0) (fun _ _ _ _ _ => True) (fun _ U o U' => ∃ v L, o = .returned v ∧ Q_bl Z a1 b1 q r n n1 k vs h0 n0 v U'.heap L ∧ FrameEnd U o U' L ({ frames := 2, cells := 0, slots := 0, locals := 26 } : Room).cells ({ frames := 2, cells := 0, slots := 0, locals := 26 } : Room).slots) := by
  refine MetFree.of_bodySF (plainFor_of_name pn_bl) hisR ?_
  intro p e s m args below meth c s₁ Bd hml0 hP hK
  obtain ⟨rfl, hZ, hh⟩ := hP
  have hx := Bd.exec
  have hby := Bd.bytes
  have hml : c.maxLocals = 2 := hml0
  have hown : s.vm.findClass "com/example/spanfacet/spanfacet/MsgpackWriter" = some m.cls := findClass_of_methodNamed Bd.named
  have hnm := (name_of_methodNamed Bd.named Bd.method).1
  have X0 : Stand p l e ({ frames := 2, cells := 0, slots := 0, locals := 26 } : Room) s m #[(.ref a1), (.int q)] below meth c s₁ [] 0 0 := Stand.of_body Bd
  have e0 : s₁.heap = h0 := by rw [← hh, Bd.state]; rfl
  have N0 := Fr.nil n0
  have pre0 : ∀ t, Steps p.tables e below (s₁.setTop (mkF m 0 #[.val (.ref a1), .val (.int q)] [])) t → Steps p.tables e below (s₁.setTop (entryFrame m #[(.ref a1), (.int q)] 2)) t := fun t k => castTop (ef_bl m a1 q) k
  have pre2 : ∀ t, Steps p.tables e below (s₁.setTop (mkF m 2 #[.val (.ref a1), .val (.int q)] [(.int q), (.ref a1)])) t → Steps p.tables e below (s₁.setTop (entryFrame m #[(.ref a1), (.int q)] 2)) t := fun t k => pre0 t (by
    show Steps p.tables e below (s₁.setTop (mkF m 0 #[.val (.ref a1), .val (.int q)] [])) _
    refine XS.aloadN X0.here hx rfl (hb hby dbl_0) rfl rfl ?_
    show Steps p.tables e below (s₁.setTop (mkF m 1 #[.val (.ref a1), .val (.int q)] [(.ref a1)])) _
    refine XS.iloadN X0.here hx rfl (hb hby dbl_1) rfl ?_
    show Steps p.tables e below (s₁.setTop (mkF m 2 #[.val (.ref a1), .val (.int q)] [(.int q), (.ref a1)])) _
    exact k)
  by_cases hc : q = 0
  · skip
    have hs : (194 : Int32).toInt8.toInt32 = r := by rw [hr.1 hc]; decide +kernel
    have pre3 : ∀ t, Steps p.tables e below (s₁.setTop (mkF m 14 #[.val (.ref a1), .val (.int q)] [(.int (194 : Int32)), (.ref a1)])) t → Steps p.tables e below (s₁.setTop (entryFrame m #[(.ref a1), (.int q)] 2)) t := fun t k => pre2 t (by
      show Steps p.tables e below (s₁.setTop (mkF m 2 #[.val (.ref a1), .val (.int q)] [(.int q), (.ref a1)])) _
      refine XS.ifYes X0.here hx rfl (pc0 := 2) (pc' := 11) rfl (hb hby dbl_2) rfl (XT.i0_eq_t hc) (by decide) (by decide) ?_
      show Steps p.tables e below (s₁.setTop (mkF m 11 #[.val (.ref a1), .val (.int q)] [(.ref a1)])) _
      refine XS.sipush X0.here hx rfl (hb hby dbl_11) ?_
      show Steps p.tables e below (s₁.setTop (mkF m 14 #[.val (.ref a1), .val (.int q)] [(.int (194 : Int32)), (.ref a1)])) _
      exact k)
    obtain ⟨cq4, q4a, q4b⟩ := E1.cell
    obtain ⟨_, _, ⟨T4, L4, kk4, nn4⟩, -, X4, ⟨Lc4, hQ4, l4, y4, z4⟩, st4⟩ := X0.privateBack hx (y := (⟨"com/example/spanfacet/spanfacet/MsgpackWriter", "byte1", "(I)V"⟩ : MethodName)) hown (mvT hZ (hw _ (List.mem_of_getElem? (i := 36) rfl))) (mvT hZ (hw _ (List.mem_of_getElem? (i := 37) rfl))) (own_selp (mvT hZ (hw _ (List.mem_of_getElem? (i := 15) rfl))) rfl (Cond.privateMethod_at (mvP hZ (hw _ (List.mem_of_getElem? (i := 38) rfl)) (args := #[]))) (mvT hZ (hw _ (List.mem_of_getElem? (i := 37) rfl))) (by decide)) (Cond.privateMethod_at (mvP hZ (hw _ (List.mem_of_getElem? (i := 38) rfl)) (args := #[]))) (mvT hZ (hw _ (List.mem_of_getElem? (i := 39) rfl))) (by decide) (backOf (W := 0) (rm_by1 l Z a0 hw [] a1 b1 (194 : Int32) r n n1 k vs h0 n0 Z0 E1 F1 F2 V1 hn hv hn1 g_a1 g_b1 ne_a1_b1 hs) hZ (hw _ (List.mem_of_getElem? (i := 39) rfl)) (hw _ (List.mem_of_getElem? (i := 2) rfl)) (by decide) (by decide)) (g := (mkF m 14 #[.val (.ref a1), .val (.int q)] [(.int (194 : Int32)), (.ref a1)])) rfl (by rw [hml]; rfl) (Steps.refl _) (a := a1) (by rw [e0]; exact q4a) q4b (argsL := [(.int (194 : Int32))]) (rest := []) (lenOf pd__I_V rfl) rfl (by show 2 * 0 + _ ≤ _; exact Nat.le_of_eq rfl) (hb hby dbl_14) (fun _ _ => ⟨rfl, e0, (by decide : 0 + 0 ≤ _), (by decide : 0 + 0 ≤ _)⟩)
    dsimp only [Pt.U, Pt.locs, Pt.cells, Pt.slots] at X4 l4 y4 z4 st4 hQ4
    subst l4 y4 z4
    obtain ⟨rfl, N4q, Kc4, Fb4, Fz4, Va4⟩ := hQ4
    have N4 := Fr.app N0 N4q
    have f5_0 := E1.keep Kc4
    have Z4 : n0 ≤ T4.heap.size := Nat.le_trans Z0 Kc4.1
    have e4 : T4.heap = T4.heap := rfl
    have pre6 : ∀ t, Steps p.tables e below (T4.setTop (mkF m 17 #[.val (.ref a1), .val (.int q)] [])) t → Steps p.tables e below (s₁.setTop (entryFrame m #[(.ref a1), (.int q)] 2)) t := fun t k => pre3 t (by
      show Steps p.tables e below (s₁.setTop (mkF m 14 #[.val (.ref a1), .val (.int q)] [(.int (194 : Int32)), (.ref a1)])) _
      refine st4.trans ?_
      show Steps p.tables e below (T4.setTop (mkF m 17 #[.val (.ref a1), .val (.int q)] [])) _
      exact k)
    obtain ⟨fs, hr, hrun, hended, hW, hsame⟩ := X4.leave (v := none) (fun _ => rfl)
    refine ⟨_, _, pre6 _ ?_, hrun, hended, _, _, rfl, ?_, ⟨_, rfl⟩, hW, hsame.mono (by decide) (by decide)⟩
    · exact X4.returnOut hx Bd.returns (hb hby dbl_17) hr
    · show Q_bl Z a1 b1 q r n n1 k vs h0 n0 _ T4.heap _
      skip
      exact ⟨rfl, N4, Kc4, Fb4, Fz4, Va4⟩
  · skip
    have hs : (195 : Int32).toInt8.toInt32 = r := by rw [hr.2 hc]; decide +kernel
    have pre3 : ∀ t, Steps p.tables e below (s₁.setTop (mkF m 14 #[.val (.ref a1), .val (.int q)] [(.int (195 : Int32)), (.ref a1)])) t → Steps p.tables e below (s₁.setTop (entryFrame m #[(.ref a1), (.int q)] 2)) t := fun t k => pre2 t (by
      show Steps p.tables e below (s₁.setTop (mkF m 2 #[.val (.ref a1), .val (.int q)] [(.int q), (.ref a1)])) _
      refine XS.ifNo X0.here hx rfl (hb hby dbl_2) rfl (XT.i0_eq_f hc) ?_
      show Steps p.tables e below (s₁.setTop (mkF m 5 #[.val (.ref a1), .val (.int q)] [(.ref a1)])) _
      refine XS.sipush X0.here hx rfl (hb hby dbl_5) ?_
      show Steps p.tables e below (s₁.setTop (mkF m 8 #[.val (.ref a1), .val (.int q)] [(.int (195 : Int32)), (.ref a1)])) _
      refine XS.goto X0.here hx rfl (pc0 := 8) (pc' := 14) rfl (hb hby dbl_8) (by decide) (by decide) ?_
      show Steps p.tables e below (s₁.setTop (mkF m 14 #[.val (.ref a1), .val (.int q)] [(.int (195 : Int32)), (.ref a1)])) _
      exact k)
    obtain ⟨cq4, q4a, q4b⟩ := E1.cell
    obtain ⟨_, _, ⟨T4, L4, kk4, nn4⟩, -, X4, ⟨Lc4, hQ4, l4, y4, z4⟩, st4⟩ := X0.privateBack hx (y := (⟨"com/example/spanfacet/spanfacet/MsgpackWriter", "byte1", "(I)V"⟩ : MethodName)) hown (mvT hZ (hw _ (List.mem_of_getElem? (i := 36) rfl))) (mvT hZ (hw _ (List.mem_of_getElem? (i := 37) rfl))) (own_selp (mvT hZ (hw _ (List.mem_of_getElem? (i := 15) rfl))) rfl (Cond.privateMethod_at (mvP hZ (hw _ (List.mem_of_getElem? (i := 38) rfl)) (args := #[]))) (mvT hZ (hw _ (List.mem_of_getElem? (i := 37) rfl))) (by decide)) (Cond.privateMethod_at (mvP hZ (hw _ (List.mem_of_getElem? (i := 38) rfl)) (args := #[]))) (mvT hZ (hw _ (List.mem_of_getElem? (i := 39) rfl))) (by decide) (backOf (W := 0) (rm_by1 l Z a0 hw [] a1 b1 (195 : Int32) r n n1 k vs h0 n0 Z0 E1 F1 F2 V1 hn hv hn1 g_a1 g_b1 ne_a1_b1 hs) hZ (hw _ (List.mem_of_getElem? (i := 39) rfl)) (hw _ (List.mem_of_getElem? (i := 2) rfl)) (by decide) (by decide)) (g := (mkF m 14 #[.val (.ref a1), .val (.int q)] [(.int (195 : Int32)), (.ref a1)])) rfl (by rw [hml]; rfl) (Steps.refl _) (a := a1) (by rw [e0]; exact q4a) q4b (argsL := [(.int (195 : Int32))]) (rest := []) (lenOf pd__I_V rfl) rfl (by show 2 * 0 + _ ≤ _; exact Nat.le_of_eq rfl) (hb hby dbl_14) (fun _ _ => ⟨rfl, e0, (by decide : 0 + 0 ≤ _), (by decide : 0 + 0 ≤ _)⟩)
    dsimp only [Pt.U, Pt.locs, Pt.cells, Pt.slots] at X4 l4 y4 z4 st4 hQ4
    subst l4 y4 z4
    obtain ⟨rfl, N4q, Kc4, Fb4, Fz4, Va4⟩ := hQ4
    have N4 := Fr.app N0 N4q
    have f5_0 := E1.keep Kc4
    have Z4 : n0 ≤ T4.heap.size := Nat.le_trans Z0 Kc4.1
    have e4 : T4.heap = T4.heap := rfl
    have pre6 : ∀ t, Steps p.tables e below (T4.setTop (mkF m 17 #[.val (.ref a1), .val (.int q)] [])) t → Steps p.tables e below (s₁.setTop (entryFrame m #[(.ref a1), (.int q)] 2)) t := fun t k => pre3 t (by
      show Steps p.tables e below (s₁.setTop (mkF m 14 #[.val (.ref a1), .val (.int q)] [(.int (195 : Int32)), (.ref a1)])) _
      refine st4.trans ?_
      show Steps p.tables e below (T4.setTop (mkF m 17 #[.val (.ref a1), .val (.int q)] [])) _
      exact k)
    obtain ⟨fs, hr, hrun, hended, hW, hsame⟩ := X4.leave (v := none) (fun _ => rfl)
    refine ⟨_, _, pre6 _ ?_, hrun, hended, _, _, rfl, ?_, ⟨_, rfl⟩, hW, hsame.mono (by decide) (by decide)⟩
    · exact X4.returnOut hx Bd.returns (hb hby dbl_17) hr
    · show Q_bl Z a1 b1 q r n n1 k vs h0 n0 _ T4.heap _
      skip
      exact ⟨rfl, N4, Kc4, Fb4, Fz4, Va4⟩
theorem dint_0 : decode prog_13_method_6_code 0 = .ok (.lload_n 1, 1) := by decide +kernel
theorem dint_1 : decode prog_13_method_6_code 1 = .ok (.lconst 0, 1) := by decide +kernel
theorem dint_2 : decode prog_13_method_6_code 2 = .ok (.lcmp, 1) := by decide +kernel
theorem dint_3 : decode prog_13_method_6_code 3 = .ok (.ifCond .lt 107, 3) := by decide +kernel
theorem dint_6 : decode prog_13_method_6_code 6 = .ok (.lload_n 1, 1) := by decide +kernel
theorem dint_7 : decode prog_13_method_6_code 7 = .ok (.ldc2_w 40, 3) := by decide +kernel
theorem dint_10 : decode prog_13_method_6_code 10 = .ok (.lcmp, 1) := by decide +kernel
theorem dint_11 : decode prog_13_method_6_code 11 = .ok (.ifCond .gt 12, 3) := by decide +kernel
theorem dint_14 : decode prog_13_method_6_code 14 = .ok (.aload_n 0, 1) := by decide +kernel
theorem dint_15 : decode prog_13_method_6_code 15 = .ok (.lload_n 1, 1) := by decide +kernel
theorem dint_16 : decode prog_13_method_6_code 16 = .ok (.l2i, 1) := by decide +kernel
theorem dint_17 : decode prog_13_method_6_code 17 = .ok (.invokevirtual 29, 3) := by decide +kernel
theorem dint_20 : decode prog_13_method_6_code 20 = .ok (.goto 191, 3) := by decide +kernel
theorem dint_211 : decode prog_13_method_6_code 211 = .ok (.return_, 1) := by decide +kernel
theorem pn_int : plainName "com/example/spanfacet/spanfacet/MsgpackWriter" = true := by first | (simp [plainName, overriddenIn]; done) | decide +kernel
theorem ef_int (m : MethodId) (a1 : Addr) (q : Int64) : entryFrame m #[(.ref a1), (.long q)] 3 = (mkF m 0 #[.val (.ref a1), .val (.long q), .second] []) := by first | (simp [entryFrame, mkF, argsToLocals, Value.category]; done) | rfl
def Q_int (Z : State) (a1 b1 : Addr) (q : Int64) (r n n1 : Int32) (k : ClassId) (vs : List Value) (h0 : Heap) (n0 : Nat) (v : Option Value) (h : Heap) (L : List Loc) : Prop := v = none ∧ Fr n0 L ∧ Keep h0 h [a1, b1] ∧ Fld Z h a1 "com/example/spanfacet/spanfacet/MsgpackWriter" "buffer" "[B" (.ref b1) ∧ Fld Z h a1 "com/example/spanfacet/spanfacet/MsgpackWriter" "size" "I" (.int n1) ∧ Arv Z h b1 k .byte (512 : Int32) (vs ++ [(.int r)]) (.int (0 : Int32))
set_option maxRecDepth 65536 in
set_option maxHeartbeats 40000000 in
theorem rm_int (l : Launch) (Z : State) (a0 : Array Value) (hw : ∀ d ∈ tables_1, d.before a0 Z = true) (ws : List Jvm.Cond) (a1 b1 : Addr) (q : Int64) (r n n1 : Int32) (k : ClassId) (vs : List Value) (h0 : Heap) (n0 : Nat) (Z0 : n0 ≤ h0.size) (E1 : Exa Z h0 a1 "com/example/spanfacet/spanfacet/MsgpackWriter") (F1 : Fld Z h0 a1 "com/example/spanfacet/spanfacet/MsgpackWriter" "buffer" "[B" (.ref b1)) (F2 : Fld Z h0 a1 "com/example/spanfacet/spanfacet/MsgpackWriter" "size" "I" (.int n)) (V1 : Arv Z h0 b1 k .byte (512 : Int32) vs (.int (0 : Int32))) (hn : n = Int32.ofNat vs.length) (hv : vs.length ≤ 2) (hn1 : n + (1 : Int32) = n1) (g_a1 : n0 ≤ a1) (g_b1 : n0 ≤ b1) (ne_a1_b1 : a1 ≠ b1) (hq : ¬ q < (0 : Int64) ∧ ¬ (127 : Int64) < q) (hr : q.toInt32.toInt8.toInt32 = r) :
    MetFree l (⟨"com/example/spanfacet/spanfacet/MsgpackWriter", "integer", "(J)V"⟩ : MethodName) (head1 (Jvm.Cond.code (⟨"com/example/spanfacet/spanfacet/MsgpackWriter", "integer", "(J)V"⟩ : MethodName) prog_13_method_6_code 3 none :: ws) ({ frames := 2, cells := 0, slots := 0, locals := 26 } : Room)) (fun a U => a = #[(.ref a1), (.long q)] ∧ Z.Warmed39 U.vm ∧ U.heap = h0) (fun _ _ _ _ _ => True) (fun _ U o U' => ∃ v L, o = .returned v ∧ Q_int Z a1 b1 q r n n1 k vs h0 n0 v U'.heap L ∧ FrameEnd U o U' L ({ frames := 2, cells := 0, slots := 0, locals := 26 } : Room).cells ({ frames := 2, cells := 0, slots := 0, locals := 26 } : Room).slots) := by
  refine MetFree.of_bodySF (plainFor_of_name pn_int) hisR ?_
  intro p e s m args below meth c s₁ Bd hml0 hP hK
  obtain ⟨rfl, hZ, hh⟩ := hP
  have hx := Bd.exec
  have hby := Bd.bytes
  have hml : c.maxLocals = 3 := hml0
  have hown : s.vm.findClass "com/example/spanfacet/spanfacet/MsgpackWriter" = some m.cls := findClass_of_methodNamed Bd.named
  have hnm := (name_of_methodNamed Bd.named Bd.method).1
  have X0 : Stand p l e ({ frames := 2, cells := 0, slots := 0, locals := 26 } : Room) s m #[(.ref a1), (.long q)] below meth c s₁ [] 0 0 := Stand.of_body Bd
  have e0 : s₁.heap = h0 := by rw [← hh, Bd.state]; rfl
  have N0 := Fr.nil n0
  have pre0 : ∀ t, Steps p.tables e below (s₁.setTop (mkF m 0 #[.val (.ref a1), .val (.long q), .second] [])) t → Steps p.tables e below (s₁.setTop (entryFrame m #[(.ref a1), (.long q)] 3)) t := fun t k => castTop (ef_int m a1 q) k
  have pre2 : ∀ t, Steps p.tables e below (s₁.setTop (mkF m 17 #[.val (.ref a1), .val (.long q), .second] [(.int (q.toInt32)), (.ref a1)])) t → Steps p.tables e below (s₁.setTop (entryFrame m #[(.ref a1), (.long q)] 3)) t := fun t k => pre0 t (by
    show Steps p.tables e below (s₁.setTop (mkF m 0 #[.val (.ref a1), .val (.long q), .second] [])) _
    refine XT.lloadN X0.here hx rfl (hb hby dint_0) rfl ?_
    show Steps p.tables e below (s₁.setTop (mkF m 1 #[.val (.ref a1), .val (.long q), .second] [(.long q)])) _
    refine XT.lconst X0.here hx rfl (hb hby dint_1) ?_
    show Steps p.tables e below (s₁.setTop (mkF m 2 #[.val (.ref a1), .val (.long q), .second] [(.long (0 : Int64)), (.long q)])) _
    refine XT.lcmp X0.here hx rfl (hb hby dint_2) rfl ?_
    show Steps p.tables e below (s₁.setTop (mkF m 3 #[.val (.ref a1), .val (.long q), .second] [(.int (XT.cmpL q (0 : Int64)))])) _
    refine XS.ifNo X0.here hx rfl (hb hby dint_3) rfl (XT.ll_lt_f hq.1) ?_
    show Steps p.tables e below (s₁.setTop (mkF m 6 #[.val (.ref a1), .val (.long q), .second] [])) _
    refine XT.lloadN X0.here hx rfl (hb hby dint_6) rfl ?_
    show Steps p.tables e below (s₁.setTop (mkF m 7 #[.val (.ref a1), .val (.long q), .second] [(.long q)])) _
    refine X0.ldc2J hx hown (mvT hZ (hw _ (List.mem_of_getElem? (i := 49) rfl))) rfl (hb hby dint_7) ?_
    show Steps p.tables e below (s₁.setTop (mkF m 10 #[.val (.ref a1), .val (.long q), .second] [(.long (127 : Int64)), (.long q)])) _
    refine XT.lcmp X0.here hx rfl (hb hby dint_10) rfl ?_
    show Steps p.tables e below (s₁.setTop (mkF m 11 #[.val (.ref a1), .val (.long q), .second] [(.int (XT.cmpL q (127 : Int64)))])) _
    refine XS.ifNo X0.here hx rfl (hb hby dint_11) rfl (XT.ll_gt_f hq.2) ?_
    show Steps p.tables e below (s₁.setTop (mkF m 14 #[.val (.ref a1), .val (.long q), .second] [])) _
    refine XS.aloadN X0.here hx rfl (hb hby dint_14) rfl rfl ?_
    show Steps p.tables e below (s₁.setTop (mkF m 15 #[.val (.ref a1), .val (.long q), .second] [(.ref a1)])) _
    refine XT.lloadN X0.here hx rfl (hb hby dint_15) rfl ?_
    show Steps p.tables e below (s₁.setTop (mkF m 16 #[.val (.ref a1), .val (.long q), .second] [(.long q), (.ref a1)])) _
    refine XT.l2i X0.here hx rfl (hb hby dint_16) rfl ?_
    show Steps p.tables e below (s₁.setTop (mkF m 17 #[.val (.ref a1), .val (.long q), .second] [(.int (q.toInt32)), (.ref a1)])) _
    exact k)
  obtain ⟨cq3, q3a, q3b⟩ := E1.cell
  obtain ⟨_, _, ⟨T3, L3, kk3, nn3⟩, -, X3, ⟨Lc3, hQ3, l3, y3, z3⟩, st3⟩ := X0.privateBack hx (y := (⟨"com/example/spanfacet/spanfacet/MsgpackWriter", "byte1", "(I)V"⟩ : MethodName)) hown (mvT hZ (hw _ (List.mem_of_getElem? (i := 36) rfl))) (mvT hZ (hw _ (List.mem_of_getElem? (i := 37) rfl))) (own_selp (mvT hZ (hw _ (List.mem_of_getElem? (i := 15) rfl))) rfl (Cond.privateMethod_at (mvP hZ (hw _ (List.mem_of_getElem? (i := 38) rfl)) (args := #[]))) (mvT hZ (hw _ (List.mem_of_getElem? (i := 37) rfl))) (by decide)) (Cond.privateMethod_at (mvP hZ (hw _ (List.mem_of_getElem? (i := 38) rfl)) (args := #[]))) (mvT hZ (hw _ (List.mem_of_getElem? (i := 39) rfl))) (by decide) (backOf (W := 0) (rm_by1 l Z a0 hw [] a1 b1 q.toInt32 r n n1 k vs h0 n0 Z0 E1 F1 F2 V1 hn hv hn1 g_a1 g_b1 ne_a1_b1 hr) hZ (hw _ (List.mem_of_getElem? (i := 39) rfl)) (hw _ (List.mem_of_getElem? (i := 2) rfl)) (by decide) (by decide)) (g := (mkF m 17 #[.val (.ref a1), .val (.long q), .second] [(.int (q.toInt32)), (.ref a1)])) rfl (by rw [hml]; rfl) (Steps.refl _) (a := a1) (by rw [e0]; exact q3a) q3b (argsL := [(.int (q.toInt32))]) (rest := []) (lenOf pd__I_V rfl) rfl (by show 2 * 0 + _ ≤ _; exact Nat.le_of_eq rfl) (hb hby dint_17) (fun _ _ => ⟨rfl, e0, (by decide : 0 + 0 ≤ _), (by decide : 0 + 0 ≤ _)⟩)
  dsimp only [Pt.U, Pt.locs, Pt.cells, Pt.slots] at X3 l3 y3 z3 st3 hQ3
  subst l3 y3 z3
  obtain ⟨rfl, N3q, Kc3, Fb3, Fz3, Va3⟩ := hQ3
  have N3 := Fr.app N0 N3q
  have f4_0 := E1.keep Kc3
  have Z3 : n0 ≤ T3.heap.size := Nat.le_trans Z0 Kc3.1
  have e3 : T3.heap = T3.heap := rfl
  have pre5 : ∀ t, Steps p.tables e below (T3.setTop (mkF m 211 #[.val (.ref a1), .val (.long q), .second] [])) t → Steps p.tables e below (s₁.setTop (entryFrame m #[(.ref a1), (.long q)] 3)) t := fun t k => pre2 t (by
    show Steps p.tables e below (s₁.setTop (mkF m 17 #[.val (.ref a1), .val (.long q), .second] [(.int (q.toInt32)), (.ref a1)])) _
    refine st3.trans ?_
    show Steps p.tables e below (T3.setTop (mkF m 20 #[.val (.ref a1), .val (.long q), .second] [])) _
    refine XS.goto X3.here hx rfl (pc0 := 20) (pc' := 211) rfl (hb hby dint_20) (by decide) (by decide) ?_
    show Steps p.tables e below (T3.setTop (mkF m 211 #[.val (.ref a1), .val (.long q), .second] [])) _
    exact k)
  obtain ⟨fs, hr, hrun, hended, hW, hsame⟩ := X3.leave (v := none) (fun _ => rfl)
  refine ⟨_, _, pre5 _ ?_, hrun, hended, _, _, rfl, ?_, ⟨_, rfl⟩, hW, hsame.mono (by decide) (by decide)⟩
  · exact X3.returnOut hx Bd.returns (hb hby dint_211) hr
  · show Q_int Z a1 b1 q r n n1 k vs h0 n0 _ T3.heap _
    skip
    exact ⟨rfl, N3, Kc3, Fb3, Fz3, Va3⟩
theorem pd___V : parseMethodDescriptor "()V" = some ⟨[], none⟩ := by decide +kernel
theorem pd____B : parseMethodDescriptor "()[B" = some ⟨[], some (.array .byte)⟩ := by decide +kernel
theorem pd__Z_V : parseMethodDescriptor "(Z)V" = some ⟨[.boolean], none⟩ := by decide +kernel
theorem pd__J_V : parseMethodDescriptor "(J)V" = some ⟨[.long], none⟩ := by decide +kernel
theorem pn_0 : plainName "com/example/spanfacet/spanfacet/MsgpackWriterToByteArrayPinLaw" = true := by first | (simp [plainName, overriddenIn]; done) | decide +kernel
theorem ef_0 (m : MethodId) (p1 : Int32) (p2 : Int32) (p3 : Int32) : entryFrame m #[(.int p1), (.int p2), (.int p3)] maxLocals = (mkF m 0 #[.val (.int p1), .val (.int p2), .val (.int p3), .unset, .unset, .unset, .unset, .unset, .unset, .unset, .unset, .unset, .unset, .unset] []) := by first | (simp [entryFrame, mkF, argsToLocals, Value.category, maxLocals]; done) | rfl
def Q_0 (Z : State) (p1 p2 p3 : Int32) (h0 : Heap) (n0 : Nat) (v : Option Value) (h : Heap) (L : List Loc) : Prop := v = some (.int 1) ∧ Fr n0 L
set_option maxRecDepth 65536 in
set_option maxHeartbeats 40000000 in
theorem rs_0_11 (l : Launch) (Z : State) (a0 : Array Value) (hw : ∀ d ∈ tables_1, d.before a0 Z = true) (ws : List Jvm.Cond) (p1 p2 p3 : Int32) (h0 : Heap) (n0 : Nat) (xv : Int32) (yv : Int32) (vv : Int32) (ea : Int32) (eb : Int32) (ec2 : Int32) (b15 : Addr) (bb : Addr) (kb : ClassId) (br107 : Addr) (kr107 : ClassId) (br21 : Addr) (br92 : Addr) {p e s m below meth c s₁} (Bd : BodyLoose p l x (head1 (Jvm.Cond.code x code maxLocals ret :: ws) room_1) code maxLocals ret e s m #[(.int p1), (.int p2), (.int p3)] below meth c s₁) (hZ : Z.Warmed39 s.vm) (hml : c.maxLocals = 14) {Tc Lc0} (hhc : Heap) (Xc : Stand p l e room_1 s m #[(.int p1), (.int p2), (.int p3)] below meth c Tc Lc0 5 523) (ec : Tc.heap = hhc) (Nc : Fr n0 Lc0) (Zc : n0 ≤ hhc.size) (prec : ∀ t, Steps p.tables e below (Tc.setTop (mkF m 180 #[.val (.int p1), .val (.int p2), .val (.int p3), .val (.int (3 : Int32)), .val (.int xv), .val (.int yv), .val (.int vv), .val (.int ea), .val (.int eb), .val (.int ec2), .val (.ref b15), .val (.ref br21), .val (.ref br107), .unset] [])) t → Steps p.tables e below (s₁.setTop (entryFrame m #[(.int p1), (.int p2), (.int p3)] maxLocals)) t) (fc11_0 : Exa Z hhc b15 "com/example/spanfacet/spanfacet/MsgpackWriter") (fc11_1 : Fld Z hhc b15 "com/example/spanfacet/spanfacet/MsgpackWriter" "buffer" "[B" (.ref bb)) (fc11_2 : Fld Z hhc b15 "com/example/spanfacet/spanfacet/MsgpackWriter" "size" "I" (.int (3 : Int32))) (fc11_3 : Arv Z hhc bb kb .byte (512 : Int32) [(.int ea), (.int eb), (.int ec2)] (.int (0 : Int32))) (fc11_4 : Arv Z hhc br107 kr107 .byte (3 : Int32) [(.int ea), (.int eb), (.int ec2)] (.int (0 : Int32))) (ne_b15_bb : b15 ≠ bb) (ne_b15_br21 : b15 ≠ br21) (ne_bb_br21 : bb ≠ br21) (ne_b15_br92 : b15 ≠ br92) (ne_bb_br92 : bb ≠ br92) (ne_b15_br107 : b15 ≠ br107) (ne_bb_br107 : bb ≠ br107) (g_b15 : n0 ≤ b15) (g_bb : n0 ≤ bb) (g_br21 : n0 ≤ br21) (g_br92 : n0 ≤ br92) (g_br107 : n0 ≤ br107) (b_vv : ¬ vv.toInt64 < (0 : Int64) ∧ ¬ (127 : Int64) < vv.toInt64) (h_ea : (xv = 0 → ea = (-62 : Int32)) ∧ (¬ xv = 0 → ea = (-61 : Int32))) (h_eb : vv.toInt8.toInt32 = eb) (h_ec2 : (yv = 0 → ec2 = (-62 : Int32)) ∧ (¬ yv = 0 → ec2 = (-61 : Int32))) :
    ∃ s₂ o, Steps p.tables e below (s₁.setTop (entryFrame m #[(.int p1), (.int p2), (.int p3)] maxLocals)) s₂ ∧ s₂.status = .running ∧ Ended s₂ below o ∧ ∃ v L, o = .returned v ∧ Q_0 Z p1 p2 p3 h0 n0 v s₂.heap L ∧ FrameEnd s o s₂ L room_1.cells room_1.slots := by
  have hx := Bd.exec
  have hby := Bd.bytes
  have hown : s.vm.findClass "com/example/spanfacet/spanfacet/MsgpackWriterToByteArrayPinLaw" = some m.cls := findClass_of_methodNamed Bd.named
  have hnm := (name_of_methodNamed Bd.named Bd.method).1
  obtain ⟨cl111, Ar111, kc111, S111, M111, H111, G111⟩ := id fc11_4
  have hin111 := inb_of S111 (j := (0 : Int32)) (by decide)
  have hat111 : cl111.slots[((0 : Int32)).toNatClampNeg]? = some (.int ea) := H111.at hin111 rfl
  obtain ⟨cl112, Ar112, kc112, S112, M112, H112, G112⟩ := id fc11_4
  have hin112 := inb_of S112 (j := (1 : Int32)) (by decide)
  have hat112 : cl112.slots[((1 : Int32)).toNatClampNeg]? = some (.int eb) := H112.at hin112 rfl
  obtain ⟨cl113, Ar113, kc113, S113, M113, H113, G113⟩ := id fc11_4
  have hin113 := inb_of S113 (j := (2 : Int32)) (by decide)
  have hat113 : cl113.slots[((2 : Int32)).toNatClampNeg]? = some (.int ec2) := H113.at hin113 rfl
  have pre114 : ∀ t, Steps p.tables e below (Tc.setTop (mkF m 241 #[.val (.int p1), .val (.int p2), .val (.int p3), .val (.int (3 : Int32)), .val (.int xv), .val (.int yv), .val (.int vv), .val (.int ea), .val (.int eb), .val (.int ec2), .val (.ref b15), .val (.ref br21), .val (.ref br107), .unset] [(.int ((ea ^^^ (1 : Int32)).toInt8.toInt32)), (.int (0 : Int32)), (.ref br107)])) t → Steps p.tables e below (s₁.setTop (entryFrame m #[(.int p1), (.int p2), (.int p3)] maxLocals)) t := fun t k => prec t (by
    show Steps p.tables e below (Tc.setTop (mkF m 180 #[.val (.int p1), .val (.int p2), .val (.int p3), .val (.int (3 : Int32)), .val (.int xv), .val (.int yv), .val (.int vv), .val (.int ea), .val (.int eb), .val (.int ec2), .val (.ref b15), .val (.ref br21), .val (.ref br107), .unset] [])) _
    refine XS.iloadN Xc.here hx rfl (hb hby at_180) rfl ?_
    show Steps p.tables e below (Tc.setTop (mkF m 181 #[.val (.int p1), .val (.int p2), .val (.int p3), .val (.int (3 : Int32)), .val (.int xv), .val (.int yv), .val (.int vv), .val (.int ea), .val (.int eb), .val (.int ec2), .val (.ref b15), .val (.ref br21), .val (.ref br107), .unset] [(.int (3 : Int32))])) _
    refine XS.iconst Xc.here hx rfl (hb hby at_181) ?_
    show Steps p.tables e below (Tc.setTop (mkF m 182 #[.val (.int p1), .val (.int p2), .val (.int p3), .val (.int (3 : Int32)), .val (.int xv), .val (.int yv), .val (.int vv), .val (.int ea), .val (.int eb), .val (.int ec2), .val (.ref b15), .val (.ref br21), .val (.ref br107), .unset] [(.int (1 : Int32)), (.int (3 : Int32))])) _
    refine XS.icmpNo Xc.here hx rfl (hb hby at_182) rfl (XT.ii_lt_f (by decide)) ?_
    show Steps p.tables e below (Tc.setTop (mkF m 185 #[.val (.int p1), .val (.int p2), .val (.int p3), .val (.int (3 : Int32)), .val (.int xv), .val (.int yv), .val (.int vv), .val (.int ea), .val (.int eb), .val (.int ec2), .val (.ref b15), .val (.ref br21), .val (.ref br107), .unset] [])) _
    refine XS.aload Xc.here hx rfl (hb hby at_185) rfl rfl ?_
    show Steps p.tables e below (Tc.setTop (mkF m 187 #[.val (.int p1), .val (.int p2), .val (.int p3), .val (.int (3 : Int32)), .val (.int xv), .val (.int yv), .val (.int vv), .val (.int ea), .val (.int eb), .val (.int ec2), .val (.ref b15), .val (.ref br21), .val (.ref br107), .unset] [(.ref br107)])) _
    refine XS.iconst Xc.here hx rfl (hb hby at_187) ?_
    show Steps p.tables e below (Tc.setTop (mkF m 188 #[.val (.int p1), .val (.int p2), .val (.int p3), .val (.int (3 : Int32)), .val (.int xv), .val (.int yv), .val (.int vv), .val (.int ea), .val (.int eb), .val (.int ec2), .val (.ref b15), .val (.ref br21), .val (.ref br107), .unset] [(.int (0 : Int32)), (.ref br107)])) _
    refine Xc.baloadBytes hx (j := (0 : Int32)) (v := (.int ea)) (by rw [ec]; exact Ar111.1) (State.isArrayOf_alike hZ.alike Ar111.2.1) Ar111.2.2 hin111 hat111 (g := (mkF m 188 #[.val (.int p1), .val (.int p2), .val (.int p3), .val (.int (3 : Int32)), .val (.int xv), .val (.int yv), .val (.int vv), .val (.int ea), .val (.int eb), .val (.int ec2), .val (.ref b15), .val (.ref br21), .val (.ref br107), .unset] [(.int (0 : Int32)), (.ref br107)])) rfl rfl (hb hby at_188) _ ?_
    show Steps p.tables e below (Tc.setTop (mkF m 189 #[.val (.int p1), .val (.int p2), .val (.int p3), .val (.int (3 : Int32)), .val (.int xv), .val (.int yv), .val (.int vv), .val (.int ea), .val (.int eb), .val (.int ec2), .val (.ref b15), .val (.ref br21), .val (.ref br107), .unset] [(.int ea)])) _
    refine XS.iload Xc.here hx rfl (hb hby at_189) rfl ?_
    show Steps p.tables e below (Tc.setTop (mkF m 191 #[.val (.int p1), .val (.int p2), .val (.int p3), .val (.int (3 : Int32)), .val (.int xv), .val (.int yv), .val (.int vv), .val (.int ea), .val (.int eb), .val (.int ec2), .val (.ref b15), .val (.ref br21), .val (.ref br107), .unset] [(.int ea), (.int ea)])) _
    refine XS.icmpYes Xc.here hx rfl (pc0 := 191) (pc' := 196) rfl (hb hby at_191) rfl (XT.ii_eq_t rfl) (by decide) (by decide) ?_
    show Steps p.tables e below (Tc.setTop (mkF m 196 #[.val (.int p1), .val (.int p2), .val (.int p3), .val (.int (3 : Int32)), .val (.int xv), .val (.int yv), .val (.int vv), .val (.int ea), .val (.int eb), .val (.int ec2), .val (.ref b15), .val (.ref br21), .val (.ref br107), .unset] [])) _
    refine XS.iloadN Xc.here hx rfl (hb hby at_196) rfl ?_
    show Steps p.tables e below (Tc.setTop (mkF m 197 #[.val (.int p1), .val (.int p2), .val (.int p3), .val (.int (3 : Int32)), .val (.int xv), .val (.int yv), .val (.int vv), .val (.int ea), .val (.int eb), .val (.int ec2), .val (.ref b15), .val (.ref br21), .val (.ref br107), .unset] [(.int (3 : Int32))])) _
    refine XS.iconst Xc.here hx rfl (hb hby at_197) ?_
    show Steps p.tables e below (Tc.setTop (mkF m 198 #[.val (.int p1), .val (.int p2), .val (.int p3), .val (.int (3 : Int32)), .val (.int xv), .val (.int yv), .val (.int vv), .val (.int ea), .val (.int eb), .val (.int ec2), .val (.ref b15), .val (.ref br21), .val (.ref br107), .unset] [(.int (2 : Int32)), (.int (3 : Int32))])) _
    refine XS.icmpNo Xc.here hx rfl (hb hby at_198) rfl (XT.ii_lt_f (by decide)) ?_
    show Steps p.tables e below (Tc.setTop (mkF m 201 #[.val (.int p1), .val (.int p2), .val (.int p3), .val (.int (3 : Int32)), .val (.int xv), .val (.int yv), .val (.int vv), .val (.int ea), .val (.int eb), .val (.int ec2), .val (.ref b15), .val (.ref br21), .val (.ref br107), .unset] [])) _
    refine XS.aload Xc.here hx rfl (hb hby at_201) rfl rfl ?_
    show Steps p.tables e below (Tc.setTop (mkF m 203 #[.val (.int p1), .val (.int p2), .val (.int p3), .val (.int (3 : Int32)), .val (.int xv), .val (.int yv), .val (.int vv), .val (.int ea), .val (.int eb), .val (.int ec2), .val (.ref b15), .val (.ref br21), .val (.ref br107), .unset] [(.ref br107)])) _
    refine XS.iconst Xc.here hx rfl (hb hby at_203) ?_
    show Steps p.tables e below (Tc.setTop (mkF m 204 #[.val (.int p1), .val (.int p2), .val (.int p3), .val (.int (3 : Int32)), .val (.int xv), .val (.int yv), .val (.int vv), .val (.int ea), .val (.int eb), .val (.int ec2), .val (.ref b15), .val (.ref br21), .val (.ref br107), .unset] [(.int (1 : Int32)), (.ref br107)])) _
    refine Xc.baloadBytes hx (j := (1 : Int32)) (v := (.int eb)) (by rw [ec]; exact Ar112.1) (State.isArrayOf_alike hZ.alike Ar112.2.1) Ar112.2.2 hin112 hat112 (g := (mkF m 204 #[.val (.int p1), .val (.int p2), .val (.int p3), .val (.int (3 : Int32)), .val (.int xv), .val (.int yv), .val (.int vv), .val (.int ea), .val (.int eb), .val (.int ec2), .val (.ref b15), .val (.ref br21), .val (.ref br107), .unset] [(.int (1 : Int32)), (.ref br107)])) rfl rfl (hb hby at_204) _ ?_
    show Steps p.tables e below (Tc.setTop (mkF m 205 #[.val (.int p1), .val (.int p2), .val (.int p3), .val (.int (3 : Int32)), .val (.int xv), .val (.int yv), .val (.int vv), .val (.int ea), .val (.int eb), .val (.int ec2), .val (.ref b15), .val (.ref br21), .val (.ref br107), .unset] [(.int eb)])) _
    refine XS.iload Xc.here hx rfl (hb hby at_205) rfl ?_
    show Steps p.tables e below (Tc.setTop (mkF m 207 #[.val (.int p1), .val (.int p2), .val (.int p3), .val (.int (3 : Int32)), .val (.int xv), .val (.int yv), .val (.int vv), .val (.int ea), .val (.int eb), .val (.int ec2), .val (.ref b15), .val (.ref br21), .val (.ref br107), .unset] [(.int eb), (.int eb)])) _
    refine XS.icmpYes Xc.here hx rfl (pc0 := 207) (pc' := 212) rfl (hb hby at_207) rfl (XT.ii_eq_t rfl) (by decide) (by decide) ?_
    show Steps p.tables e below (Tc.setTop (mkF m 212 #[.val (.int p1), .val (.int p2), .val (.int p3), .val (.int (3 : Int32)), .val (.int xv), .val (.int yv), .val (.int vv), .val (.int ea), .val (.int eb), .val (.int ec2), .val (.ref b15), .val (.ref br21), .val (.ref br107), .unset] [])) _
    refine XS.iloadN Xc.here hx rfl (hb hby at_212) rfl ?_
    show Steps p.tables e below (Tc.setTop (mkF m 213 #[.val (.int p1), .val (.int p2), .val (.int p3), .val (.int (3 : Int32)), .val (.int xv), .val (.int yv), .val (.int vv), .val (.int ea), .val (.int eb), .val (.int ec2), .val (.ref b15), .val (.ref br21), .val (.ref br107), .unset] [(.int (3 : Int32))])) _
    refine XS.iconst Xc.here hx rfl (hb hby at_213) ?_
    show Steps p.tables e below (Tc.setTop (mkF m 214 #[.val (.int p1), .val (.int p2), .val (.int p3), .val (.int (3 : Int32)), .val (.int xv), .val (.int yv), .val (.int vv), .val (.int ea), .val (.int eb), .val (.int ec2), .val (.ref b15), .val (.ref br21), .val (.ref br107), .unset] [(.int (3 : Int32)), (.int (3 : Int32))])) _
    refine XS.icmpNo Xc.here hx rfl (hb hby at_214) rfl (XT.ii_lt_f (by decide)) ?_
    show Steps p.tables e below (Tc.setTop (mkF m 217 #[.val (.int p1), .val (.int p2), .val (.int p3), .val (.int (3 : Int32)), .val (.int xv), .val (.int yv), .val (.int vv), .val (.int ea), .val (.int eb), .val (.int ec2), .val (.ref b15), .val (.ref br21), .val (.ref br107), .unset] [])) _
    refine XS.aload Xc.here hx rfl (hb hby at_217) rfl rfl ?_
    show Steps p.tables e below (Tc.setTop (mkF m 219 #[.val (.int p1), .val (.int p2), .val (.int p3), .val (.int (3 : Int32)), .val (.int xv), .val (.int yv), .val (.int vv), .val (.int ea), .val (.int eb), .val (.int ec2), .val (.ref b15), .val (.ref br21), .val (.ref br107), .unset] [(.ref br107)])) _
    refine XS.iconst Xc.here hx rfl (hb hby at_219) ?_
    show Steps p.tables e below (Tc.setTop (mkF m 220 #[.val (.int p1), .val (.int p2), .val (.int p3), .val (.int (3 : Int32)), .val (.int xv), .val (.int yv), .val (.int vv), .val (.int ea), .val (.int eb), .val (.int ec2), .val (.ref b15), .val (.ref br21), .val (.ref br107), .unset] [(.int (2 : Int32)), (.ref br107)])) _
    refine Xc.baloadBytes hx (j := (2 : Int32)) (v := (.int ec2)) (by rw [ec]; exact Ar113.1) (State.isArrayOf_alike hZ.alike Ar113.2.1) Ar113.2.2 hin113 hat113 (g := (mkF m 220 #[.val (.int p1), .val (.int p2), .val (.int p3), .val (.int (3 : Int32)), .val (.int xv), .val (.int yv), .val (.int vv), .val (.int ea), .val (.int eb), .val (.int ec2), .val (.ref b15), .val (.ref br21), .val (.ref br107), .unset] [(.int (2 : Int32)), (.ref br107)])) rfl rfl (hb hby at_220) _ ?_
    show Steps p.tables e below (Tc.setTop (mkF m 221 #[.val (.int p1), .val (.int p2), .val (.int p3), .val (.int (3 : Int32)), .val (.int xv), .val (.int yv), .val (.int vv), .val (.int ea), .val (.int eb), .val (.int ec2), .val (.ref b15), .val (.ref br21), .val (.ref br107), .unset] [(.int ec2)])) _
    refine XS.iload Xc.here hx rfl (hb hby at_221) rfl ?_
    show Steps p.tables e below (Tc.setTop (mkF m 223 #[.val (.int p1), .val (.int p2), .val (.int p3), .val (.int (3 : Int32)), .val (.int xv), .val (.int yv), .val (.int vv), .val (.int ea), .val (.int eb), .val (.int ec2), .val (.ref b15), .val (.ref br21), .val (.ref br107), .unset] [(.int ec2), (.int ec2)])) _
    refine XS.icmpYes Xc.here hx rfl (pc0 := 223) (pc' := 228) rfl (hb hby at_223) rfl (XT.ii_eq_t rfl) (by decide) (by decide) ?_
    show Steps p.tables e below (Tc.setTop (mkF m 228 #[.val (.int p1), .val (.int p2), .val (.int p3), .val (.int (3 : Int32)), .val (.int xv), .val (.int yv), .val (.int vv), .val (.int ea), .val (.int eb), .val (.int ec2), .val (.ref b15), .val (.ref br21), .val (.ref br107), .unset] [])) _
    refine XS.iloadN Xc.here hx rfl (hb hby at_228) rfl ?_
    show Steps p.tables e below (Tc.setTop (mkF m 229 #[.val (.int p1), .val (.int p2), .val (.int p3), .val (.int (3 : Int32)), .val (.int xv), .val (.int yv), .val (.int vv), .val (.int ea), .val (.int eb), .val (.int ec2), .val (.ref b15), .val (.ref br21), .val (.ref br107), .unset] [(.int (3 : Int32))])) _
    refine XS.iconst Xc.here hx rfl (hb hby at_229) ?_
    show Steps p.tables e below (Tc.setTop (mkF m 230 #[.val (.int p1), .val (.int p2), .val (.int p3), .val (.int (3 : Int32)), .val (.int xv), .val (.int yv), .val (.int vv), .val (.int ea), .val (.int eb), .val (.int ec2), .val (.ref b15), .val (.ref br21), .val (.ref br107), .unset] [(.int (1 : Int32)), (.int (3 : Int32))])) _
    refine XS.icmpNo Xc.here hx rfl (hb hby at_230) rfl (XT.ii_lt_f (by decide)) ?_
    show Steps p.tables e below (Tc.setTop (mkF m 233 #[.val (.int p1), .val (.int p2), .val (.int p3), .val (.int (3 : Int32)), .val (.int xv), .val (.int yv), .val (.int vv), .val (.int ea), .val (.int eb), .val (.int ec2), .val (.ref b15), .val (.ref br21), .val (.ref br107), .unset] [])) _
    refine XS.aload Xc.here hx rfl (hb hby at_233) rfl rfl ?_
    show Steps p.tables e below (Tc.setTop (mkF m 235 #[.val (.int p1), .val (.int p2), .val (.int p3), .val (.int (3 : Int32)), .val (.int xv), .val (.int yv), .val (.int vv), .val (.int ea), .val (.int eb), .val (.int ec2), .val (.ref b15), .val (.ref br21), .val (.ref br107), .unset] [(.ref br107)])) _
    refine XS.iconst Xc.here hx rfl (hb hby at_235) ?_
    show Steps p.tables e below (Tc.setTop (mkF m 236 #[.val (.int p1), .val (.int p2), .val (.int p3), .val (.int (3 : Int32)), .val (.int xv), .val (.int yv), .val (.int vv), .val (.int ea), .val (.int eb), .val (.int ec2), .val (.ref b15), .val (.ref br21), .val (.ref br107), .unset] [(.int (0 : Int32)), (.ref br107)])) _
    refine XS.iload Xc.here hx rfl (hb hby at_236) rfl ?_
    show Steps p.tables e below (Tc.setTop (mkF m 238 #[.val (.int p1), .val (.int p2), .val (.int p3), .val (.int (3 : Int32)), .val (.int xv), .val (.int yv), .val (.int vv), .val (.int ea), .val (.int eb), .val (.int ec2), .val (.ref b15), .val (.ref br21), .val (.ref br107), .unset] [(.int ea), (.int (0 : Int32)), (.ref br107)])) _
    refine XS.iconst Xc.here hx rfl (hb hby at_238) ?_
    show Steps p.tables e below (Tc.setTop (mkF m 239 #[.val (.int p1), .val (.int p2), .val (.int p3), .val (.int (3 : Int32)), .val (.int xv), .val (.int yv), .val (.int vv), .val (.int ea), .val (.int eb), .val (.int ec2), .val (.ref b15), .val (.ref br21), .val (.ref br107), .unset] [(.int (1 : Int32)), (.int ea), (.int (0 : Int32)), (.ref br107)])) _
    refine XT.ixor Xc.here hx rfl (hb hby at_239) rfl ?_
    show Steps p.tables e below (Tc.setTop (mkF m 240 #[.val (.int p1), .val (.int p2), .val (.int p3), .val (.int (3 : Int32)), .val (.int xv), .val (.int yv), .val (.int vv), .val (.int ea), .val (.int eb), .val (.int ec2), .val (.ref b15), .val (.ref br21), .val (.ref br107), .unset] [(.int (ea ^^^ (1 : Int32))), (.int (0 : Int32)), (.ref br107)])) _
    refine XT.i2b Xc.here hx rfl (hb hby at_240) rfl ?_
    show Steps p.tables e below (Tc.setTop (mkF m 241 #[.val (.int p1), .val (.int p2), .val (.int p3), .val (.int (3 : Int32)), .val (.int xv), .val (.int yv), .val (.int vv), .val (.int ea), .val (.int eb), .val (.int ec2), .val (.ref b15), .val (.ref br21), .val (.ref br107), .unset] [(.int ((ea ^^^ (1 : Int32)).toInt8.toInt32)), (.int (0 : Int32)), (.ref br107)])) _
    exact k)
  obtain ⟨cl115, Ar115, kc115, S115, M115, H115, G115⟩ := id fc11_4
  have hin115 := inb_of S115 (j := (0 : Int32)) (by decide)
  obtain ⟨T115, h115, X115, e115, W115, st115⟩ := stB Xc hx hZ ec Ar115 (j := (0 : Int32)) hin115 (g := (mkF m 241 #[.val (.int p1), .val (.int p2), .val (.int p3), .val (.int (3 : Int32)), .val (.int xv), .val (.int yv), .val (.int vv), .val (.int ea), .val (.int eb), .val (.int ec2), .val (.ref b15), .val (.ref br21), .val (.ref br107), .unset] [(.int ((ea ^^^ (1 : Int32)).toInt8.toInt32)), (.int (0 : Int32)), (.ref br107)])) rfl rfl (hb hby at_241)
  have V115 : Arv Z h115 br107 kr107 .byte (3 : Int32) [(.int (nar .byte ((ea ^^^ (1 : Int32)).toInt8.toInt32))), (.int eb), (.int ec2)] (.int (0 : Int32)) := Arv.set Ar115 kc115 S115 M115 H115 G115 (v := (.int (nar .byte ((ea ^^^ (1 : Int32)).toInt8.toInt32)))) (fits_nar_byte _) W115 0 (by decide) (by simp)
  have N115 := Fr.snoc X115 Nc g_br107
  have f116_0 := fc11_0.wr W115
  have f116_1 := fc11_1.other W115 (Or.inl ne_b15_br107)
  have f116_2 := fc11_2.other W115 (Or.inl ne_b15_br107)
  have f116_3 := fc11_3.other W115 ne_bb_br107
  have Z115 : n0 ≤ h115.size := Nat.le_trans Zc (Keep.of_wr W115).1
  have pre117 : ∀ t, Steps p.tables e below (T115.setTop (mkF m 244 #[.val (.int p1), .val (.int p2), .val (.int p3), .val (.int (3 : Int32)), .val (.int xv), .val (.int yv), .val (.int vv), .val (.int ea), .val (.int eb), .val (.int ec2), .val (.ref b15), .val (.ref br21), .val (.ref br107), .unset] [(.ref b15)])) t → Steps p.tables e below (s₁.setTop (entryFrame m #[(.int p1), (.int p2), (.int p3)] maxLocals)) t := fun t k => pre114 t (by
    show Steps p.tables e below (Tc.setTop (mkF m 241 #[.val (.int p1), .val (.int p2), .val (.int p3), .val (.int (3 : Int32)), .val (.int xv), .val (.int yv), .val (.int vv), .val (.int ea), .val (.int eb), .val (.int ec2), .val (.ref b15), .val (.ref br21), .val (.ref br107), .unset] [(.int ((ea ^^^ (1 : Int32)).toInt8.toInt32)), (.int (0 : Int32)), (.ref br107)])) _
    refine st115 _ ?_
    show Steps p.tables e below (T115.setTop (mkF m 242 #[.val (.int p1), .val (.int p2), .val (.int p3), .val (.int (3 : Int32)), .val (.int xv), .val (.int yv), .val (.int vv), .val (.int ea), .val (.int eb), .val (.int ec2), .val (.ref b15), .val (.ref br21), .val (.ref br107), .unset] [])) _
    refine XS.aload X115.here hx rfl (hb hby at_242) rfl rfl ?_
    show Steps p.tables e below (T115.setTop (mkF m 244 #[.val (.int p1), .val (.int p2), .val (.int p3), .val (.int (3 : Int32)), .val (.int xv), .val (.int yv), .val (.int vv), .val (.int ea), .val (.int eb), .val (.int ec2), .val (.ref b15), .val (.ref br21), .val (.ref br107), .unset] [(.ref b15)])) _
    exact k)
  obtain ⟨cq118, kq118, q118a, q118b, q118c⟩ := isOf hZ e115 f116_0
  obtain ⟨_, _, ⟨T118, L118, kk118, nn118⟩, -, X118, ⟨Lc118, hQ118, l118, y118, z118⟩, st118⟩ := X115.virtualBack hx (y := (⟨"com/example/spanfacet/spanfacet/MsgpackWriter", "toByteArray", "()[B"⟩ : MethodName)) (z := (⟨"com/example/spanfacet/spanfacet/MsgpackWriter", "toByteArray", "()[B"⟩ : MethodName)) hown (mvT hZ (hw _ (List.mem_of_getElem? (i := 12) rfl))) (mvT hZ (hw _ (List.mem_of_getElem? (i := 13) rfl))) (notFace_of_selects (args := #[]) (mvT hZ (hw _ (List.mem_of_getElem? (i := 15) rfl)))) (mvT hZ (hw _ (List.mem_of_getElem? (i := 15) rfl))) (mvT hZ (hw _ (List.mem_of_getElem? (i := 14) rfl))) (by decide) (backOf (W := 0) (rm_tba l Z a0 hw [] b15 bb (3 : Int32) kb [(.int ea), (.int eb), (.int ec2)] h115 n0 Z115 f116_1 f116_2 f116_3 (show (3 : Int32) = Int32.ofNat 3 from by decide) (show 3 ≤ 3 from by decide)) hZ (hw _ (List.mem_of_getElem? (i := 16) rfl)) (hw _ (List.mem_of_getElem? (i := 2) rfl)) (by decide) (by decide)) q118a q118c (g := (mkF m 244 #[.val (.int p1), .val (.int p2), .val (.int p3), .val (.int (3 : Int32)), .val (.int xv), .val (.int yv), .val (.int vv), .val (.int ea), .val (.int eb), .val (.int ec2), .val (.ref b15), .val (.ref br21), .val (.ref br107), .unset] [(.ref b15)])) rfl (by rw [hml]; rfl) (Steps.refl _) (argsL := []) (rest := []) (lenOf pd____B rfl) rfl (by show 2 * 0 + _ ≤ _; exact Nat.le_of_eq rfl) (hb hby at_244) (fun _ _ => ⟨rfl, e115, (by decide : 5 + 1 ≤ _), (by decide : 523 + 3 ≤ _)⟩)
  dsimp only [Pt.U, Pt.locs, Pt.cells, Pt.slots] at X118 l118 y118 z118 st118 hQ118
  subst l118 y118 z118
  obtain ⟨br118, kr118, rfl, N118q, Kc118, g_br118, sr118, Vr118⟩ := hQ118
  have N118 := Fr.app N115 N118q
  have f119_0 := f116_0.keep Kc118
  have f119_1 := f116_1.keep Kc118 (by simp)
  have f119_2 := f116_2.keep Kc118 (by simp)
  have f119_3 := f116_3.keep Kc118 (by simp)
  have Z118 : n0 ≤ T118.heap.size := Nat.le_trans Z115 Kc118.1
  have e118 : T118.heap = T118.heap := rfl
  have ne_b15_br118 : b15 ≠ br118 := Nat.ne_of_lt (Nat.lt_of_lt_of_le f116_0.lt sr118)
  have ne_bb_br118 : bb ≠ br118 := Nat.ne_of_lt (Nat.lt_of_lt_of_le f116_3.lt sr118)
  obtain ⟨cl120, Ar120, kc120, S120, M120, H120, G120⟩ := id Vr118
  obtain ⟨cl121, Ar121, kc121, S121, M121, H121, G121⟩ := id Vr118
  have hin121 := inb_of S121 (j := (0 : Int32)) (by decide)
  have hat121 : cl121.slots[((0 : Int32)).toNatClampNeg]? = some (.int ea) := H121.at hin121 rfl
  have pre122 : ∀ t, Steps p.tables e below (T118.setTop (mkF m 268 #[.val (.int p1), .val (.int p2), .val (.int p3), .val (.int (3 : Int32)), .val (.int xv), .val (.int yv), .val (.int vv), .val (.int ea), .val (.int eb), .val (.int ec2), .val (.ref b15), .val (.ref br21), .val (.ref br107), .val (.ref br118)] [(.int (1 : Int32))])) t → Steps p.tables e below (s₁.setTop (entryFrame m #[(.int p1), (.int p2), (.int p3)] maxLocals)) t := fun t k => pre117 t (by
    show Steps p.tables e below (T115.setTop (mkF m 244 #[.val (.int p1), .val (.int p2), .val (.int p3), .val (.int (3 : Int32)), .val (.int xv), .val (.int yv), .val (.int vv), .val (.int ea), .val (.int eb), .val (.int ec2), .val (.ref b15), .val (.ref br21), .val (.ref br107), .unset] [(.ref b15)])) _
    refine st118.trans ?_
    show Steps p.tables e below (T118.setTop (mkF m 247 #[.val (.int p1), .val (.int p2), .val (.int p3), .val (.int (3 : Int32)), .val (.int xv), .val (.int yv), .val (.int vv), .val (.int ea), .val (.int eb), .val (.int ec2), .val (.ref b15), .val (.ref br21), .val (.ref br107), .unset] [(.ref br118)])) _
    refine XS.astore X118.here hx rfl (hb hby at_247) rfl rfl (l' := #[.val (.int p1), .val (.int p2), .val (.int p3), .val (.int (3 : Int32)), .val (.int xv), .val (.int yv), .val (.int vv), .val (.int ea), .val (.int eb), .val (.int ec2), .val (.ref b15), .val (.ref br21), .val (.ref br107), .val (.ref br118)]) rfl ?_
    show Steps p.tables e below (T118.setTop (mkF m 249 #[.val (.int p1), .val (.int p2), .val (.int p3), .val (.int (3 : Int32)), .val (.int xv), .val (.int yv), .val (.int vv), .val (.int ea), .val (.int eb), .val (.int ec2), .val (.ref b15), .val (.ref br21), .val (.ref br107), .val (.ref br118)] [])) _
    refine XS.aload X118.here hx rfl (hb hby at_249) rfl rfl ?_
    show Steps p.tables e below (T118.setTop (mkF m 251 #[.val (.int p1), .val (.int p2), .val (.int p3), .val (.int (3 : Int32)), .val (.int xv), .val (.int yv), .val (.int vv), .val (.int ea), .val (.int eb), .val (.int ec2), .val (.ref b15), .val (.ref br21), .val (.ref br107), .val (.ref br118)] [(.ref br118)])) _
    refine X118.arraylength hx (cell := cl120) (by rw [e118]; exact Ar120.1) (State.isArrayOf_alike hZ.alike Ar120.2.1) (g := (mkF m 251 #[.val (.int p1), .val (.int p2), .val (.int p3), .val (.int (3 : Int32)), .val (.int xv), .val (.int yv), .val (.int vv), .val (.int ea), .val (.int eb), .val (.int ec2), .val (.ref b15), .val (.ref br21), .val (.ref br107), .val (.ref br118)] [(.ref br118)])) rfl (rest := []) rfl (hb hby at_251) _ ?_
    rw [len_of S120 M120]
    show Steps p.tables e below (T118.setTop (mkF m 252 #[.val (.int p1), .val (.int p2), .val (.int p3), .val (.int (3 : Int32)), .val (.int xv), .val (.int yv), .val (.int vv), .val (.int ea), .val (.int eb), .val (.int ec2), .val (.ref b15), .val (.ref br21), .val (.ref br107), .val (.ref br118)] [(.int (3 : Int32))])) _
    refine XS.iloadN X118.here hx rfl (hb hby at_252) rfl ?_
    show Steps p.tables e below (T118.setTop (mkF m 253 #[.val (.int p1), .val (.int p2), .val (.int p3), .val (.int (3 : Int32)), .val (.int xv), .val (.int yv), .val (.int vv), .val (.int ea), .val (.int eb), .val (.int ec2), .val (.ref b15), .val (.ref br21), .val (.ref br107), .val (.ref br118)] [(.int (3 : Int32)), (.int (3 : Int32))])) _
    refine XS.icmpNo X118.here hx rfl (hb hby at_253) rfl (XT.ii_ne_f rfl) ?_
    show Steps p.tables e below (T118.setTop (mkF m 256 #[.val (.int p1), .val (.int p2), .val (.int p3), .val (.int (3 : Int32)), .val (.int xv), .val (.int yv), .val (.int vv), .val (.int ea), .val (.int eb), .val (.int ec2), .val (.ref b15), .val (.ref br21), .val (.ref br107), .val (.ref br118)] [])) _
    refine XS.aload X118.here hx rfl (hb hby at_256) rfl rfl ?_
    show Steps p.tables e below (T118.setTop (mkF m 258 #[.val (.int p1), .val (.int p2), .val (.int p3), .val (.int (3 : Int32)), .val (.int xv), .val (.int yv), .val (.int vv), .val (.int ea), .val (.int eb), .val (.int ec2), .val (.ref b15), .val (.ref br21), .val (.ref br107), .val (.ref br118)] [(.ref br118)])) _
    refine XS.iconst X118.here hx rfl (hb hby at_258) ?_
    show Steps p.tables e below (T118.setTop (mkF m 259 #[.val (.int p1), .val (.int p2), .val (.int p3), .val (.int (3 : Int32)), .val (.int xv), .val (.int yv), .val (.int vv), .val (.int ea), .val (.int eb), .val (.int ec2), .val (.ref b15), .val (.ref br21), .val (.ref br107), .val (.ref br118)] [(.int (0 : Int32)), (.ref br118)])) _
    refine X118.baloadBytes hx (j := (0 : Int32)) (v := (.int ea)) (by rw [e118]; exact Ar121.1) (State.isArrayOf_alike hZ.alike Ar121.2.1) Ar121.2.2 hin121 hat121 (g := (mkF m 259 #[.val (.int p1), .val (.int p2), .val (.int p3), .val (.int (3 : Int32)), .val (.int xv), .val (.int yv), .val (.int vv), .val (.int ea), .val (.int eb), .val (.int ec2), .val (.ref b15), .val (.ref br21), .val (.ref br107), .val (.ref br118)] [(.int (0 : Int32)), (.ref br118)])) rfl rfl (hb hby at_259) _ ?_
    show Steps p.tables e below (T118.setTop (mkF m 260 #[.val (.int p1), .val (.int p2), .val (.int p3), .val (.int (3 : Int32)), .val (.int xv), .val (.int yv), .val (.int vv), .val (.int ea), .val (.int eb), .val (.int ec2), .val (.ref b15), .val (.ref br21), .val (.ref br107), .val (.ref br118)] [(.int ea)])) _
    refine XS.iload X118.here hx rfl (hb hby at_260) rfl ?_
    show Steps p.tables e below (T118.setTop (mkF m 262 #[.val (.int p1), .val (.int p2), .val (.int p3), .val (.int (3 : Int32)), .val (.int xv), .val (.int yv), .val (.int vv), .val (.int ea), .val (.int eb), .val (.int ec2), .val (.ref b15), .val (.ref br21), .val (.ref br107), .val (.ref br118)] [(.int ea), (.int ea)])) _
    refine XS.icmpYes X118.here hx rfl (pc0 := 262) (pc' := 267) rfl (hb hby at_262) rfl (XT.ii_eq_t rfl) (by decide) (by decide) ?_
    show Steps p.tables e below (T118.setTop (mkF m 267 #[.val (.int p1), .val (.int p2), .val (.int p3), .val (.int (3 : Int32)), .val (.int xv), .val (.int yv), .val (.int vv), .val (.int ea), .val (.int eb), .val (.int ec2), .val (.ref b15), .val (.ref br21), .val (.ref br107), .val (.ref br118)] [])) _
    refine XS.iconst X118.here hx rfl (hb hby at_267) ?_
    show Steps p.tables e below (T118.setTop (mkF m 268 #[.val (.int p1), .val (.int p2), .val (.int p3), .val (.int (3 : Int32)), .val (.int xv), .val (.int yv), .val (.int vv), .val (.int ea), .val (.int eb), .val (.int ec2), .val (.ref b15), .val (.ref br21), .val (.ref br107), .val (.ref br118)] [(.int (1 : Int32))])) _
    exact k)
  obtain ⟨fs, hr, hrun, hended, hW, hsame⟩ := X118.leave (v := some (.int (1 : Int32))) (fun h => by rw [Bd.returns] at h; cases h)
  refine ⟨_, _, pre122 _ ?_, hrun, hended, _, _, rfl, ?_, ⟨_, rfl⟩, hW, hsame.mono (by decide) (by decide)⟩
  · exact retN X118 hx (t := .boolean) Bd.returns (by simp) (hb hby at_268) hr
  · show Q_0 Z p1 p2 p3 h0 n0 _ T118.heap _
    skip
    exact ⟨rfl, N118⟩
set_option maxRecDepth 65536 in
set_option maxHeartbeats 40000000 in
theorem rs_0_10 (l : Launch) (Z : State) (a0 : Array Value) (hw : ∀ d ∈ tables_1, d.before a0 Z = true) (ws : List Jvm.Cond) (p1 p2 p3 : Int32) (h0 : Heap) (n0 : Nat) (xv : Int32) (yv : Int32) (vv : Int32) (ea : Int32) (eb : Int32) (ec2 : Int32) (b15 : Addr) (bb : Addr) (kb : ClassId) (br21 : Addr) (br92 : Addr) {p e s m below meth c s₁} (Bd : BodyLoose p l x (head1 (Jvm.Cond.code x code maxLocals ret :: ws) room_1) code maxLocals ret e s m #[(.int p1), (.int p2), (.int p3)] below meth c s₁) (hZ : Z.Warmed39 s.vm) (hml : c.maxLocals = 14) {Tc Lc0} (hhc : Heap) (Xc : Stand p l e room_1 s m #[(.int p1), (.int p2), (.int p3)] below meth c Tc Lc0 4 520) (ec : Tc.heap = hhc) (Nc : Fr n0 Lc0) (Zc : n0 ≤ hhc.size) (prec : ∀ t, Steps p.tables e below (Tc.setTop (mkF m 139 #[.val (.int p1), .val (.int p2), .val (.int p3), .val (.int (3 : Int32)), .val (.int xv), .val (.int yv), .val (.int vv), .val (.int ea), .val (.int eb), .val (.int ec2), .val (.ref b15), .val (.ref br21), .val (.ref br92), .unset] [])) t → Steps p.tables e below (s₁.setTop (entryFrame m #[(.int p1), (.int p2), (.int p3)] maxLocals)) t) (fc10_0 : Exa Z hhc b15 "com/example/spanfacet/spanfacet/MsgpackWriter") (fc10_1 : Fld Z hhc b15 "com/example/spanfacet/spanfacet/MsgpackWriter" "buffer" "[B" (.ref bb)) (fc10_2 : Fld Z hhc b15 "com/example/spanfacet/spanfacet/MsgpackWriter" "size" "I" (.int (1 : Int32))) (fc10_3 : Arv Z hhc bb kb .byte (512 : Int32) [(.int ea)] (.int (0 : Int32))) (ne_b15_bb : b15 ≠ bb) (ne_b15_br21 : b15 ≠ br21) (ne_bb_br21 : bb ≠ br21) (ne_b15_br92 : b15 ≠ br92) (ne_bb_br92 : bb ≠ br92) (g_b15 : n0 ≤ b15) (g_bb : n0 ≤ bb) (g_br21 : n0 ≤ br21) (g_br92 : n0 ≤ br92) (b_vv : ¬ vv.toInt64 < (0 : Int64) ∧ ¬ (127 : Int64) < vv.toInt64) (h_ea : (xv = 0 → ea = (-62 : Int32)) ∧ (¬ xv = 0 → ea = (-61 : Int32))) (h_eb : vv.toInt8.toInt32 = eb) (h_ec2 : (yv = 0 → ec2 = (-62 : Int32)) ∧ (¬ yv = 0 → ec2 = (-61 : Int32))) :
    ∃ s₂ o, Steps p.tables e below (s₁.setTop (entryFrame m #[(.int p1), (.int p2), (.int p3)] maxLocals)) s₂ ∧ s₂.status = .running ∧ Ended s₂ below o ∧ ∃ v L, o = .returned v ∧ Q_0 Z p1 p2 p3 h0 n0 v s₂.heap L ∧ FrameEnd s o s₂ L room_1.cells room_1.slots := by
  have hx := Bd.exec
  have hby := Bd.bytes
  have hown : s.vm.findClass "com/example/spanfacet/spanfacet/MsgpackWriterToByteArrayPinLaw" = some m.cls := findClass_of_methodNamed Bd.named
  have hnm := (name_of_methodNamed Bd.named Bd.method).1
  have pre100 : ∀ t, Steps p.tables e below (Tc.setTop (mkF m 149 #[.val (.int p1), .val (.int p2), .val (.int p3), .val (.int (3 : Int32)), .val (.int xv), .val (.int yv), .val (.int vv), .val (.int ea), .val (.int eb), .val (.int ec2), .val (.ref b15), .val (.ref br21), .val (.ref br92), .unset] [(.long (vv.toInt64)), (.ref b15)])) t → Steps p.tables e below (s₁.setTop (entryFrame m #[(.int p1), (.int p2), (.int p3)] maxLocals)) t := fun t k => prec t (by
    show Steps p.tables e below (Tc.setTop (mkF m 139 #[.val (.int p1), .val (.int p2), .val (.int p3), .val (.int (3 : Int32)), .val (.int xv), .val (.int yv), .val (.int vv), .val (.int ea), .val (.int eb), .val (.int ec2), .val (.ref b15), .val (.ref br21), .val (.ref br92), .unset] [])) _
    refine XS.iloadN Xc.here hx rfl (hb hby at_139) rfl ?_
    show Steps p.tables e below (Tc.setTop (mkF m 140 #[.val (.int p1), .val (.int p2), .val (.int p3), .val (.int (3 : Int32)), .val (.int xv), .val (.int yv), .val (.int vv), .val (.int ea), .val (.int eb), .val (.int ec2), .val (.ref b15), .val (.ref br21), .val (.ref br92), .unset] [(.int (3 : Int32))])) _
    refine XS.iconst Xc.here hx rfl (hb hby at_140) ?_
    show Steps p.tables e below (Tc.setTop (mkF m 141 #[.val (.int p1), .val (.int p2), .val (.int p3), .val (.int (3 : Int32)), .val (.int xv), .val (.int yv), .val (.int vv), .val (.int ea), .val (.int eb), .val (.int ec2), .val (.ref b15), .val (.ref br21), .val (.ref br92), .unset] [(.int (2 : Int32)), (.int (3 : Int32))])) _
    refine XS.icmpNo Xc.here hx rfl (hb hby at_141) rfl (XT.ii_lt_f (by decide)) ?_
    show Steps p.tables e below (Tc.setTop (mkF m 144 #[.val (.int p1), .val (.int p2), .val (.int p3), .val (.int (3 : Int32)), .val (.int xv), .val (.int yv), .val (.int vv), .val (.int ea), .val (.int eb), .val (.int ec2), .val (.ref b15), .val (.ref br21), .val (.ref br92), .unset] [])) _
    refine XS.aload Xc.here hx rfl (hb hby at_144) rfl rfl ?_
    show Steps p.tables e below (Tc.setTop (mkF m 146 #[.val (.int p1), .val (.int p2), .val (.int p3), .val (.int (3 : Int32)), .val (.int xv), .val (.int yv), .val (.int vv), .val (.int ea), .val (.int eb), .val (.int ec2), .val (.ref b15), .val (.ref br21), .val (.ref br92), .unset] [(.ref b15)])) _
    refine XS.iload Xc.here hx rfl (hb hby at_146) rfl ?_
    show Steps p.tables e below (Tc.setTop (mkF m 148 #[.val (.int p1), .val (.int p2), .val (.int p3), .val (.int (3 : Int32)), .val (.int xv), .val (.int yv), .val (.int vv), .val (.int ea), .val (.int eb), .val (.int ec2), .val (.ref b15), .val (.ref br21), .val (.ref br92), .unset] [(.int vv), (.ref b15)])) _
    refine XT.i2l Xc.here hx rfl (hb hby at_148) rfl ?_
    show Steps p.tables e below (Tc.setTop (mkF m 149 #[.val (.int p1), .val (.int p2), .val (.int p3), .val (.int (3 : Int32)), .val (.int xv), .val (.int yv), .val (.int vv), .val (.int ea), .val (.int eb), .val (.int ec2), .val (.ref b15), .val (.ref br21), .val (.ref br92), .unset] [(.long (vv.toInt64)), (.ref b15)])) _
    exact k)
  obtain ⟨cq101, kq101, q101a, q101b, q101c⟩ := isOf hZ ec fc10_0
  obtain ⟨_, _, ⟨T101, L101, kk101, nn101⟩, -, X101, ⟨Lc101, hQ101, l101, y101, z101⟩, st101⟩ := Xc.virtualBack hx (y := (⟨"com/example/spanfacet/spanfacet/MsgpackWriter", "integer", "(J)V"⟩ : MethodName)) (z := (⟨"com/example/spanfacet/spanfacet/MsgpackWriter", "integer", "(J)V"⟩ : MethodName)) hown (mvT hZ (hw _ (List.mem_of_getElem? (i := 44) rfl))) (mvT hZ (hw _ (List.mem_of_getElem? (i := 45) rfl))) (notFace_of_selects (args := #[]) (mvT hZ (hw _ (List.mem_of_getElem? (i := 47) rfl)))) (mvT hZ (hw _ (List.mem_of_getElem? (i := 47) rfl))) (mvT hZ (hw _ (List.mem_of_getElem? (i := 46) rfl))) (by decide) (backOf (W := 0) (rm_int l Z a0 hw [] b15 bb vv.toInt64 eb (1 : Int32) (2 : Int32) kb [(.int ea)] hhc n0 Zc fc10_0 fc10_1 fc10_2 fc10_3 (show (1 : Int32) = Int32.ofNat 1 from by decide) (show 1 ≤ 2 from by decide) (by decide) g_b15 g_bb ne_b15_bb b_vv ((own_rt vv).trans h_eb)) hZ (hw _ (List.mem_of_getElem? (i := 48) rfl)) (hw _ (List.mem_of_getElem? (i := 2) rfl)) (by decide) (by decide)) q101a q101c (g := (mkF m 149 #[.val (.int p1), .val (.int p2), .val (.int p3), .val (.int (3 : Int32)), .val (.int xv), .val (.int yv), .val (.int vv), .val (.int ea), .val (.int eb), .val (.int ec2), .val (.ref b15), .val (.ref br21), .val (.ref br92), .unset] [(.long (vv.toInt64)), (.ref b15)])) rfl (by rw [hml]; rfl) (Steps.refl _) (argsL := [(.long (vv.toInt64))]) (rest := []) (lenOf pd__J_V rfl) rfl (by show 2 * 0 + _ ≤ _; exact Nat.le_of_eq rfl) (hb hby at_149) (fun _ _ => ⟨rfl, ec, (by decide : 4 + 0 ≤ _), (by decide : 520 + 0 ≤ _)⟩)
  dsimp only [Pt.U, Pt.locs, Pt.cells, Pt.slots] at X101 l101 y101 z101 st101 hQ101
  subst l101 y101 z101
  obtain ⟨rfl, N101q, Kc101, Fb101, Fz101, Va101⟩ := hQ101
  have N101 := Fr.app Nc N101q
  have f102_0 := fc10_0.keep Kc101
  have Z101 : n0 ≤ T101.heap.size := Nat.le_trans Zc Kc101.1
  have e101 : T101.heap = T101.heap := rfl
  have Vb101 : Arv Z T101.heap bb kb .byte (512 : Int32) [(.int ea), (.int eb)] (.int (0 : Int32)) := Va101
  have pre103 : ∀ t, Steps p.tables e below (T101.setTop (mkF m 161 #[.val (.int p1), .val (.int p2), .val (.int p3), .val (.int (3 : Int32)), .val (.int xv), .val (.int yv), .val (.int vv), .val (.int ea), .val (.int eb), .val (.int ec2), .val (.ref b15), .val (.ref br21), .val (.ref br92), .unset] [(.int yv), (.ref b15)])) t → Steps p.tables e below (s₁.setTop (entryFrame m #[(.int p1), (.int p2), (.int p3)] maxLocals)) t := fun t k => pre100 t (by
    show Steps p.tables e below (Tc.setTop (mkF m 149 #[.val (.int p1), .val (.int p2), .val (.int p3), .val (.int (3 : Int32)), .val (.int xv), .val (.int yv), .val (.int vv), .val (.int ea), .val (.int eb), .val (.int ec2), .val (.ref b15), .val (.ref br21), .val (.ref br92), .unset] [(.long (vv.toInt64)), (.ref b15)])) _
    refine st101.trans ?_
    show Steps p.tables e below (T101.setTop (mkF m 152 #[.val (.int p1), .val (.int p2), .val (.int p3), .val (.int (3 : Int32)), .val (.int xv), .val (.int yv), .val (.int vv), .val (.int ea), .val (.int eb), .val (.int ec2), .val (.ref b15), .val (.ref br21), .val (.ref br92), .unset] [])) _
    refine XS.iloadN X101.here hx rfl (hb hby at_152) rfl ?_
    show Steps p.tables e below (T101.setTop (mkF m 153 #[.val (.int p1), .val (.int p2), .val (.int p3), .val (.int (3 : Int32)), .val (.int xv), .val (.int yv), .val (.int vv), .val (.int ea), .val (.int eb), .val (.int ec2), .val (.ref b15), .val (.ref br21), .val (.ref br92), .unset] [(.int (3 : Int32))])) _
    refine XS.iconst X101.here hx rfl (hb hby at_153) ?_
    show Steps p.tables e below (T101.setTop (mkF m 154 #[.val (.int p1), .val (.int p2), .val (.int p3), .val (.int (3 : Int32)), .val (.int xv), .val (.int yv), .val (.int vv), .val (.int ea), .val (.int eb), .val (.int ec2), .val (.ref b15), .val (.ref br21), .val (.ref br92), .unset] [(.int (3 : Int32)), (.int (3 : Int32))])) _
    refine XS.icmpNo X101.here hx rfl (hb hby at_154) rfl (XT.ii_lt_f (by decide)) ?_
    show Steps p.tables e below (T101.setTop (mkF m 157 #[.val (.int p1), .val (.int p2), .val (.int p3), .val (.int (3 : Int32)), .val (.int xv), .val (.int yv), .val (.int vv), .val (.int ea), .val (.int eb), .val (.int ec2), .val (.ref b15), .val (.ref br21), .val (.ref br92), .unset] [])) _
    refine XS.aload X101.here hx rfl (hb hby at_157) rfl rfl ?_
    show Steps p.tables e below (T101.setTop (mkF m 159 #[.val (.int p1), .val (.int p2), .val (.int p3), .val (.int (3 : Int32)), .val (.int xv), .val (.int yv), .val (.int vv), .val (.int ea), .val (.int eb), .val (.int ec2), .val (.ref b15), .val (.ref br21), .val (.ref br92), .unset] [(.ref b15)])) _
    refine XS.iload X101.here hx rfl (hb hby at_159) rfl ?_
    show Steps p.tables e below (T101.setTop (mkF m 161 #[.val (.int p1), .val (.int p2), .val (.int p3), .val (.int (3 : Int32)), .val (.int xv), .val (.int yv), .val (.int vv), .val (.int ea), .val (.int eb), .val (.int ec2), .val (.ref b15), .val (.ref br21), .val (.ref br92), .unset] [(.int yv), (.ref b15)])) _
    exact k)
  obtain ⟨cq104, kq104, q104a, q104b, q104c⟩ := isOf hZ e101 f102_0
  obtain ⟨_, _, ⟨T104, L104, kk104, nn104⟩, -, X104, ⟨Lc104, hQ104, l104, y104, z104⟩, st104⟩ := X101.virtualBack hx (y := (⟨"com/example/spanfacet/spanfacet/MsgpackWriter", "bool", "(Z)V"⟩ : MethodName)) (z := (⟨"com/example/spanfacet/spanfacet/MsgpackWriter", "bool", "(Z)V"⟩ : MethodName)) hown (mvT hZ (hw _ (List.mem_of_getElem? (i := 31) rfl))) (mvT hZ (hw _ (List.mem_of_getElem? (i := 32) rfl))) (notFace_of_selects (args := #[]) (mvT hZ (hw _ (List.mem_of_getElem? (i := 34) rfl)))) (mvT hZ (hw _ (List.mem_of_getElem? (i := 34) rfl))) (mvT hZ (hw _ (List.mem_of_getElem? (i := 33) rfl))) (by decide) (backOf (W := 0) (rm_bl l Z a0 hw [] b15 bb yv ec2 (2 : Int32) (3 : Int32) kb [(.int ea), (.int eb)] T101.heap n0 Z101 f102_0 Fb101 Fz101 Vb101 (show (2 : Int32) = Int32.ofNat 2 from by decide) (show 2 ≤ 2 from by decide) (by decide) g_b15 g_bb ne_b15_bb h_ec2) hZ (hw _ (List.mem_of_getElem? (i := 35) rfl)) (hw _ (List.mem_of_getElem? (i := 2) rfl)) (by decide) (by decide)) q104a q104c (g := (mkF m 161 #[.val (.int p1), .val (.int p2), .val (.int p3), .val (.int (3 : Int32)), .val (.int xv), .val (.int yv), .val (.int vv), .val (.int ea), .val (.int eb), .val (.int ec2), .val (.ref b15), .val (.ref br21), .val (.ref br92), .unset] [(.int yv), (.ref b15)])) rfl (by rw [hml]; rfl) (Steps.refl _) (argsL := [(.int yv)]) (rest := []) (lenOf pd__Z_V rfl) rfl (by show 2 * 0 + _ ≤ _; exact Nat.le_of_eq rfl) (hb hby at_161) (fun _ _ => ⟨rfl, e101, (by decide : 4 + 0 ≤ _), (by decide : 520 + 0 ≤ _)⟩)
  dsimp only [Pt.U, Pt.locs, Pt.cells, Pt.slots] at X104 l104 y104 z104 st104 hQ104
  subst l104 y104 z104
  obtain ⟨rfl, N104q, Kc104, Fb104, Fz104, Va104⟩ := hQ104
  have N104 := Fr.app N101 N104q
  have f105_0 := f102_0.keep Kc104
  have Z104 : n0 ≤ T104.heap.size := Nat.le_trans Z101 Kc104.1
  have e104 : T104.heap = T104.heap := rfl
  have Vb104 : Arv Z T104.heap bb kb .byte (512 : Int32) [(.int ea), (.int eb), (.int ec2)] (.int (0 : Int32)) := Va104
  have pre106 : ∀ t, Steps p.tables e below (T104.setTop (mkF m 166 #[.val (.int p1), .val (.int p2), .val (.int p3), .val (.int (3 : Int32)), .val (.int xv), .val (.int yv), .val (.int vv), .val (.int ea), .val (.int eb), .val (.int ec2), .val (.ref b15), .val (.ref br21), .val (.ref br92), .unset] [(.ref b15)])) t → Steps p.tables e below (s₁.setTop (entryFrame m #[(.int p1), (.int p2), (.int p3)] maxLocals)) t := fun t k => pre103 t (by
    show Steps p.tables e below (T101.setTop (mkF m 161 #[.val (.int p1), .val (.int p2), .val (.int p3), .val (.int (3 : Int32)), .val (.int xv), .val (.int yv), .val (.int vv), .val (.int ea), .val (.int eb), .val (.int ec2), .val (.ref b15), .val (.ref br21), .val (.ref br92), .unset] [(.int yv), (.ref b15)])) _
    refine st104.trans ?_
    show Steps p.tables e below (T104.setTop (mkF m 164 #[.val (.int p1), .val (.int p2), .val (.int p3), .val (.int (3 : Int32)), .val (.int xv), .val (.int yv), .val (.int vv), .val (.int ea), .val (.int eb), .val (.int ec2), .val (.ref b15), .val (.ref br21), .val (.ref br92), .unset] [])) _
    refine XS.aload X104.here hx rfl (hb hby at_164) rfl rfl ?_
    show Steps p.tables e below (T104.setTop (mkF m 166 #[.val (.int p1), .val (.int p2), .val (.int p3), .val (.int (3 : Int32)), .val (.int xv), .val (.int yv), .val (.int vv), .val (.int ea), .val (.int eb), .val (.int ec2), .val (.ref b15), .val (.ref br21), .val (.ref br92), .unset] [(.ref b15)])) _
    exact k)
  obtain ⟨cq107, kq107, q107a, q107b, q107c⟩ := isOf hZ e104 f105_0
  obtain ⟨_, _, ⟨T107, L107, kk107, nn107⟩, -, X107, ⟨Lc107, hQ107, l107, y107, z107⟩, st107⟩ := X104.virtualBack hx (y := (⟨"com/example/spanfacet/spanfacet/MsgpackWriter", "toByteArray", "()[B"⟩ : MethodName)) (z := (⟨"com/example/spanfacet/spanfacet/MsgpackWriter", "toByteArray", "()[B"⟩ : MethodName)) hown (mvT hZ (hw _ (List.mem_of_getElem? (i := 12) rfl))) (mvT hZ (hw _ (List.mem_of_getElem? (i := 13) rfl))) (notFace_of_selects (args := #[]) (mvT hZ (hw _ (List.mem_of_getElem? (i := 15) rfl)))) (mvT hZ (hw _ (List.mem_of_getElem? (i := 15) rfl))) (mvT hZ (hw _ (List.mem_of_getElem? (i := 14) rfl))) (by decide) (backOf (W := 0) (rm_tba l Z a0 hw [] b15 bb (3 : Int32) kb [(.int ea), (.int eb), (.int ec2)] T104.heap n0 Z104 Fb104 Fz104 Vb104 (show (3 : Int32) = Int32.ofNat 3 from by decide) (show 3 ≤ 3 from by decide)) hZ (hw _ (List.mem_of_getElem? (i := 16) rfl)) (hw _ (List.mem_of_getElem? (i := 2) rfl)) (by decide) (by decide)) q107a q107c (g := (mkF m 166 #[.val (.int p1), .val (.int p2), .val (.int p3), .val (.int (3 : Int32)), .val (.int xv), .val (.int yv), .val (.int vv), .val (.int ea), .val (.int eb), .val (.int ec2), .val (.ref b15), .val (.ref br21), .val (.ref br92), .unset] [(.ref b15)])) rfl (by rw [hml]; rfl) (Steps.refl _) (argsL := []) (rest := []) (lenOf pd____B rfl) rfl (by show 2 * 0 + _ ≤ _; exact Nat.le_of_eq rfl) (hb hby at_166) (fun _ _ => ⟨rfl, e104, (by decide : 4 + 1 ≤ _), (by decide : 520 + 3 ≤ _)⟩)
  dsimp only [Pt.U, Pt.locs, Pt.cells, Pt.slots] at X107 l107 y107 z107 st107 hQ107
  subst l107 y107 z107
  obtain ⟨br107, kr107, rfl, N107q, Kc107, g_br107, sr107, Vr107⟩ := hQ107
  have N107 := Fr.app N104 N107q
  have f108_0 := f105_0.keep Kc107
  have f108_1 := Fb104.keep Kc107 (by simp)
  have f108_2 := Fz104.keep Kc107 (by simp)
  have f108_3 := Vb104.keep Kc107 (by simp)
  have Z107 : n0 ≤ T107.heap.size := Nat.le_trans Z104 Kc107.1
  have e107 : T107.heap = T107.heap := rfl
  have ne_b15_br107 : b15 ≠ br107 := Nat.ne_of_lt (Nat.lt_of_lt_of_le f105_0.lt sr107)
  have ne_bb_br107 : bb ≠ br107 := Nat.ne_of_lt (Nat.lt_of_lt_of_le Vb104.lt sr107)
  obtain ⟨cl109, Ar109, kc109, S109, M109, H109, G109⟩ := id Vr107
  have pre110 : ∀ t, Steps p.tables e below (T107.setTop (mkF m 180 #[.val (.int p1), .val (.int p2), .val (.int p3), .val (.int (3 : Int32)), .val (.int xv), .val (.int yv), .val (.int vv), .val (.int ea), .val (.int eb), .val (.int ec2), .val (.ref b15), .val (.ref br21), .val (.ref br107), .unset] [])) t → Steps p.tables e below (s₁.setTop (entryFrame m #[(.int p1), (.int p2), (.int p3)] maxLocals)) t := fun t k => pre106 t (by
    show Steps p.tables e below (T104.setTop (mkF m 166 #[.val (.int p1), .val (.int p2), .val (.int p3), .val (.int (3 : Int32)), .val (.int xv), .val (.int yv), .val (.int vv), .val (.int ea), .val (.int eb), .val (.int ec2), .val (.ref b15), .val (.ref br21), .val (.ref br92), .unset] [(.ref b15)])) _
    refine st107.trans ?_
    show Steps p.tables e below (T107.setTop (mkF m 169 #[.val (.int p1), .val (.int p2), .val (.int p3), .val (.int (3 : Int32)), .val (.int xv), .val (.int yv), .val (.int vv), .val (.int ea), .val (.int eb), .val (.int ec2), .val (.ref b15), .val (.ref br21), .val (.ref br92), .unset] [(.ref br107)])) _
    refine XS.astore X107.here hx rfl (hb hby at_169) rfl rfl (l' := #[.val (.int p1), .val (.int p2), .val (.int p3), .val (.int (3 : Int32)), .val (.int xv), .val (.int yv), .val (.int vv), .val (.int ea), .val (.int eb), .val (.int ec2), .val (.ref b15), .val (.ref br21), .val (.ref br107), .unset]) rfl ?_
    show Steps p.tables e below (T107.setTop (mkF m 171 #[.val (.int p1), .val (.int p2), .val (.int p3), .val (.int (3 : Int32)), .val (.int xv), .val (.int yv), .val (.int vv), .val (.int ea), .val (.int eb), .val (.int ec2), .val (.ref b15), .val (.ref br21), .val (.ref br107), .unset] [])) _
    refine XS.aload X107.here hx rfl (hb hby at_171) rfl rfl ?_
    show Steps p.tables e below (T107.setTop (mkF m 173 #[.val (.int p1), .val (.int p2), .val (.int p3), .val (.int (3 : Int32)), .val (.int xv), .val (.int yv), .val (.int vv), .val (.int ea), .val (.int eb), .val (.int ec2), .val (.ref b15), .val (.ref br21), .val (.ref br107), .unset] [(.ref br107)])) _
    refine X107.arraylength hx (cell := cl109) (by rw [e107]; exact Ar109.1) (State.isArrayOf_alike hZ.alike Ar109.2.1) (g := (mkF m 173 #[.val (.int p1), .val (.int p2), .val (.int p3), .val (.int (3 : Int32)), .val (.int xv), .val (.int yv), .val (.int vv), .val (.int ea), .val (.int eb), .val (.int ec2), .val (.ref b15), .val (.ref br21), .val (.ref br107), .unset] [(.ref br107)])) rfl (rest := []) rfl (hb hby at_173) _ ?_
    rw [len_of S109 M109]
    show Steps p.tables e below (T107.setTop (mkF m 174 #[.val (.int p1), .val (.int p2), .val (.int p3), .val (.int (3 : Int32)), .val (.int xv), .val (.int yv), .val (.int vv), .val (.int ea), .val (.int eb), .val (.int ec2), .val (.ref b15), .val (.ref br21), .val (.ref br107), .unset] [(.int (3 : Int32))])) _
    refine XS.iloadN X107.here hx rfl (hb hby at_174) rfl ?_
    show Steps p.tables e below (T107.setTop (mkF m 175 #[.val (.int p1), .val (.int p2), .val (.int p3), .val (.int (3 : Int32)), .val (.int xv), .val (.int yv), .val (.int vv), .val (.int ea), .val (.int eb), .val (.int ec2), .val (.ref b15), .val (.ref br21), .val (.ref br107), .unset] [(.int (3 : Int32)), (.int (3 : Int32))])) _
    refine XS.icmpYes X107.here hx rfl (pc0 := 175) (pc' := 180) rfl (hb hby at_175) rfl (XT.ii_eq_t rfl) (by decide) (by decide) ?_
    show Steps p.tables e below (T107.setTop (mkF m 180 #[.val (.int p1), .val (.int p2), .val (.int p3), .val (.int (3 : Int32)), .val (.int xv), .val (.int yv), .val (.int vv), .val (.int ea), .val (.int eb), .val (.int ec2), .val (.ref b15), .val (.ref br21), .val (.ref br107), .unset] [])) _
    exact k)
  exact rs_0_11 l Z a0 hw ws p1 p2 p3 h0 n0 xv yv vv ea eb ec2 b15 bb kb br107 kr107 br21 br92 Bd hZ hml T107.heap X107 e107 N107 Z107 pre110 f108_0 f108_1 f108_2 f108_3 Vr107 ne_b15_bb ne_b15_br21 ne_bb_br21 ne_b15_br92 ne_bb_br92 ne_b15_br107 ne_bb_br107 g_b15 g_bb g_br21 g_br92 g_br107 b_vv h_ea h_eb h_ec2
set_option maxRecDepth 65536 in
set_option maxHeartbeats 40000000 in
theorem rs_0_9 (l : Launch) (Z : State) (a0 : Array Value) (hw : ∀ d ∈ tables_1, d.before a0 Z = true) (ws : List Jvm.Cond) (p1 p2 p3 : Int32) (h0 : Heap) (n0 : Nat) (xv : Int32) (yv : Int32) (vv : Int32) (ea : Int32) (eb : Int32) (ec2 : Int32) (b15 : Addr) (bb : Addr) (kb : ClassId) (br21 : Addr) {p e s m below meth c s₁} (Bd : BodyLoose p l x (head1 (Jvm.Cond.code x code maxLocals ret :: ws) room_1) code maxLocals ret e s m #[(.int p1), (.int p2), (.int p3)] below meth c s₁) (hZ : Z.Warmed39 s.vm) (hml : c.maxLocals = 14) {Tc Lc0} (hhc : Heap) (Xc : Stand p l e room_1 s m #[(.int p1), (.int p2), (.int p3)] below meth c Tc Lc0 3 517) (ec : Tc.heap = hhc) (Nc : Fr n0 Lc0) (Zc : n0 ≤ hhc.size) (prec : ∀ t, Steps p.tables e below (Tc.setTop (mkF m 93 #[.val (.int p1), .val (.int p2), .val (.int p3), .val (.int (3 : Int32)), .val (.int xv), .val (.int yv), .val (.int vv), .val (.int ea), .val (.int eb), .val (.int ec2), .val (.ref b15), .val (.ref br21), .unset, .unset] [])) t → Steps p.tables e below (s₁.setTop (entryFrame m #[(.int p1), (.int p2), (.int p3)] maxLocals)) t) (fc9_0 : Exa Z hhc b15 "com/example/spanfacet/spanfacet/MsgpackWriter") (fc9_1 : Fld Z hhc b15 "com/example/spanfacet/spanfacet/MsgpackWriter" "buffer" "[B" (.ref bb)) (fc9_2 : Fld Z hhc b15 "com/example/spanfacet/spanfacet/MsgpackWriter" "size" "I" (.int (0 : Int32))) (fc9_3 : Arv Z hhc bb kb .byte (512 : Int32) [] (.int (0 : Int32))) (ne_b15_bb : b15 ≠ bb) (ne_b15_br21 : b15 ≠ br21) (ne_bb_br21 : bb ≠ br21) (g_b15 : n0 ≤ b15) (g_bb : n0 ≤ bb) (g_br21 : n0 ≤ br21) (b_vv : ¬ vv.toInt64 < (0 : Int64) ∧ ¬ (127 : Int64) < vv.toInt64) (h_ea : (xv = 0 → ea = (-62 : Int32)) ∧ (¬ xv = 0 → ea = (-61 : Int32))) (h_eb : vv.toInt8.toInt32 = eb) (h_ec2 : (yv = 0 → ec2 = (-62 : Int32)) ∧ (¬ yv = 0 → ec2 = (-61 : Int32))) :
    ∃ s₂ o, Steps p.tables e below (s₁.setTop (entryFrame m #[(.int p1), (.int p2), (.int p3)] maxLocals)) s₂ ∧ s₂.status = .running ∧ Ended s₂ below o ∧ ∃ v L, o = .returned v ∧ Q_0 Z p1 p2 p3 h0 n0 v s₂.heap L ∧ FrameEnd s o s₂ L room_1.cells room_1.slots := by
  have hx := Bd.exec
  have hby := Bd.bytes
  have hown : s.vm.findClass "com/example/spanfacet/spanfacet/MsgpackWriterToByteArrayPinLaw" = some m.cls := findClass_of_methodNamed Bd.named
  have hnm := (name_of_methodNamed Bd.named Bd.method).1
  have pre88 : ∀ t, Steps p.tables e below (Tc.setTop (mkF m 102 #[.val (.int p1), .val (.int p2), .val (.int p3), .val (.int (3 : Int32)), .val (.int xv), .val (.int yv), .val (.int vv), .val (.int ea), .val (.int eb), .val (.int ec2), .val (.ref b15), .val (.ref br21), .unset, .unset] [(.int xv), (.ref b15)])) t → Steps p.tables e below (s₁.setTop (entryFrame m #[(.int p1), (.int p2), (.int p3)] maxLocals)) t := fun t k => prec t (by
    show Steps p.tables e below (Tc.setTop (mkF m 93 #[.val (.int p1), .val (.int p2), .val (.int p3), .val (.int (3 : Int32)), .val (.int xv), .val (.int yv), .val (.int vv), .val (.int ea), .val (.int eb), .val (.int ec2), .val (.ref b15), .val (.ref br21), .unset, .unset] [])) _
    refine XS.iloadN Xc.here hx rfl (hb hby at_93) rfl ?_
    show Steps p.tables e below (Tc.setTop (mkF m 94 #[.val (.int p1), .val (.int p2), .val (.int p3), .val (.int (3 : Int32)), .val (.int xv), .val (.int yv), .val (.int vv), .val (.int ea), .val (.int eb), .val (.int ec2), .val (.ref b15), .val (.ref br21), .unset, .unset] [(.int (3 : Int32))])) _
    refine XS.iconst Xc.here hx rfl (hb hby at_94) ?_
    show Steps p.tables e below (Tc.setTop (mkF m 95 #[.val (.int p1), .val (.int p2), .val (.int p3), .val (.int (3 : Int32)), .val (.int xv), .val (.int yv), .val (.int vv), .val (.int ea), .val (.int eb), .val (.int ec2), .val (.ref b15), .val (.ref br21), .unset, .unset] [(.int (1 : Int32)), (.int (3 : Int32))])) _
    refine XS.icmpNo Xc.here hx rfl (hb hby at_95) rfl (XT.ii_lt_f (by decide)) ?_
    show Steps p.tables e below (Tc.setTop (mkF m 98 #[.val (.int p1), .val (.int p2), .val (.int p3), .val (.int (3 : Int32)), .val (.int xv), .val (.int yv), .val (.int vv), .val (.int ea), .val (.int eb), .val (.int ec2), .val (.ref b15), .val (.ref br21), .unset, .unset] [])) _
    refine XS.aload Xc.here hx rfl (hb hby at_98) rfl rfl ?_
    show Steps p.tables e below (Tc.setTop (mkF m 100 #[.val (.int p1), .val (.int p2), .val (.int p3), .val (.int (3 : Int32)), .val (.int xv), .val (.int yv), .val (.int vv), .val (.int ea), .val (.int eb), .val (.int ec2), .val (.ref b15), .val (.ref br21), .unset, .unset] [(.ref b15)])) _
    refine XS.iload Xc.here hx rfl (hb hby at_100) rfl ?_
    show Steps p.tables e below (Tc.setTop (mkF m 102 #[.val (.int p1), .val (.int p2), .val (.int p3), .val (.int (3 : Int32)), .val (.int xv), .val (.int yv), .val (.int vv), .val (.int ea), .val (.int eb), .val (.int ec2), .val (.ref b15), .val (.ref br21), .unset, .unset] [(.int xv), (.ref b15)])) _
    exact k)
  obtain ⟨cq89, kq89, q89a, q89b, q89c⟩ := isOf hZ ec fc9_0
  obtain ⟨_, _, ⟨T89, L89, kk89, nn89⟩, -, X89, ⟨Lc89, hQ89, l89, y89, z89⟩, st89⟩ := Xc.virtualBack hx (y := (⟨"com/example/spanfacet/spanfacet/MsgpackWriter", "bool", "(Z)V"⟩ : MethodName)) (z := (⟨"com/example/spanfacet/spanfacet/MsgpackWriter", "bool", "(Z)V"⟩ : MethodName)) hown (mvT hZ (hw _ (List.mem_of_getElem? (i := 31) rfl))) (mvT hZ (hw _ (List.mem_of_getElem? (i := 32) rfl))) (notFace_of_selects (args := #[]) (mvT hZ (hw _ (List.mem_of_getElem? (i := 34) rfl)))) (mvT hZ (hw _ (List.mem_of_getElem? (i := 34) rfl))) (mvT hZ (hw _ (List.mem_of_getElem? (i := 33) rfl))) (by decide) (backOf (W := 0) (rm_bl l Z a0 hw [] b15 bb xv ea (0 : Int32) (1 : Int32) kb [] hhc n0 Zc fc9_0 fc9_1 fc9_2 fc9_3 (show (0 : Int32) = Int32.ofNat 0 from by decide) (show 0 ≤ 2 from by decide) (by decide) g_b15 g_bb ne_b15_bb h_ea) hZ (hw _ (List.mem_of_getElem? (i := 35) rfl)) (hw _ (List.mem_of_getElem? (i := 2) rfl)) (by decide) (by decide)) q89a q89c (g := (mkF m 102 #[.val (.int p1), .val (.int p2), .val (.int p3), .val (.int (3 : Int32)), .val (.int xv), .val (.int yv), .val (.int vv), .val (.int ea), .val (.int eb), .val (.int ec2), .val (.ref b15), .val (.ref br21), .unset, .unset] [(.int xv), (.ref b15)])) rfl (by rw [hml]; rfl) (Steps.refl _) (argsL := [(.int xv)]) (rest := []) (lenOf pd__Z_V rfl) rfl (by show 2 * 0 + _ ≤ _; exact Nat.le_of_eq rfl) (hb hby at_102) (fun _ _ => ⟨rfl, ec, (by decide : 3 + 0 ≤ _), (by decide : 517 + 0 ≤ _)⟩)
  dsimp only [Pt.U, Pt.locs, Pt.cells, Pt.slots] at X89 l89 y89 z89 st89 hQ89
  subst l89 y89 z89
  obtain ⟨rfl, N89q, Kc89, Fb89, Fz89, Va89⟩ := hQ89
  have N89 := Fr.app Nc N89q
  have f90_0 := fc9_0.keep Kc89
  have Z89 : n0 ≤ T89.heap.size := Nat.le_trans Zc Kc89.1
  have e89 : T89.heap = T89.heap := rfl
  have Vb89 : Arv Z T89.heap bb kb .byte (512 : Int32) [(.int ea)] (.int (0 : Int32)) := Va89
  have pre91 : ∀ t, Steps p.tables e below (T89.setTop (mkF m 107 #[.val (.int p1), .val (.int p2), .val (.int p3), .val (.int (3 : Int32)), .val (.int xv), .val (.int yv), .val (.int vv), .val (.int ea), .val (.int eb), .val (.int ec2), .val (.ref b15), .val (.ref br21), .unset, .unset] [(.ref b15)])) t → Steps p.tables e below (s₁.setTop (entryFrame m #[(.int p1), (.int p2), (.int p3)] maxLocals)) t := fun t k => pre88 t (by
    show Steps p.tables e below (Tc.setTop (mkF m 102 #[.val (.int p1), .val (.int p2), .val (.int p3), .val (.int (3 : Int32)), .val (.int xv), .val (.int yv), .val (.int vv), .val (.int ea), .val (.int eb), .val (.int ec2), .val (.ref b15), .val (.ref br21), .unset, .unset] [(.int xv), (.ref b15)])) _
    refine st89.trans ?_
    show Steps p.tables e below (T89.setTop (mkF m 105 #[.val (.int p1), .val (.int p2), .val (.int p3), .val (.int (3 : Int32)), .val (.int xv), .val (.int yv), .val (.int vv), .val (.int ea), .val (.int eb), .val (.int ec2), .val (.ref b15), .val (.ref br21), .unset, .unset] [])) _
    refine XS.aload X89.here hx rfl (hb hby at_105) rfl rfl ?_
    show Steps p.tables e below (T89.setTop (mkF m 107 #[.val (.int p1), .val (.int p2), .val (.int p3), .val (.int (3 : Int32)), .val (.int xv), .val (.int yv), .val (.int vv), .val (.int ea), .val (.int eb), .val (.int ec2), .val (.ref b15), .val (.ref br21), .unset, .unset] [(.ref b15)])) _
    exact k)
  obtain ⟨cq92, kq92, q92a, q92b, q92c⟩ := isOf hZ e89 f90_0
  obtain ⟨_, _, ⟨T92, L92, kk92, nn92⟩, -, X92, ⟨Lc92, hQ92, l92, y92, z92⟩, st92⟩ := X89.virtualBack hx (y := (⟨"com/example/spanfacet/spanfacet/MsgpackWriter", "toByteArray", "()[B"⟩ : MethodName)) (z := (⟨"com/example/spanfacet/spanfacet/MsgpackWriter", "toByteArray", "()[B"⟩ : MethodName)) hown (mvT hZ (hw _ (List.mem_of_getElem? (i := 12) rfl))) (mvT hZ (hw _ (List.mem_of_getElem? (i := 13) rfl))) (notFace_of_selects (args := #[]) (mvT hZ (hw _ (List.mem_of_getElem? (i := 15) rfl)))) (mvT hZ (hw _ (List.mem_of_getElem? (i := 15) rfl))) (mvT hZ (hw _ (List.mem_of_getElem? (i := 14) rfl))) (by decide) (backOf (W := 0) (rm_tba l Z a0 hw [] b15 bb (1 : Int32) kb [(.int ea)] T89.heap n0 Z89 Fb89 Fz89 Vb89 (show (1 : Int32) = Int32.ofNat 1 from by decide) (show 1 ≤ 3 from by decide)) hZ (hw _ (List.mem_of_getElem? (i := 16) rfl)) (hw _ (List.mem_of_getElem? (i := 2) rfl)) (by decide) (by decide)) q92a q92c (g := (mkF m 107 #[.val (.int p1), .val (.int p2), .val (.int p3), .val (.int (3 : Int32)), .val (.int xv), .val (.int yv), .val (.int vv), .val (.int ea), .val (.int eb), .val (.int ec2), .val (.ref b15), .val (.ref br21), .unset, .unset] [(.ref b15)])) rfl (by rw [hml]; rfl) (Steps.refl _) (argsL := []) (rest := []) (lenOf pd____B rfl) rfl (by show 2 * 0 + _ ≤ _; exact Nat.le_of_eq rfl) (hb hby at_107) (fun _ _ => ⟨rfl, e89, (by decide : 3 + 1 ≤ _), (by decide : 517 + 3 ≤ _)⟩)
  dsimp only [Pt.U, Pt.locs, Pt.cells, Pt.slots] at X92 l92 y92 z92 st92 hQ92
  subst l92 y92 z92
  obtain ⟨br92, kr92, rfl, N92q, Kc92, g_br92, sr92, Vr92⟩ := hQ92
  have N92 := Fr.app N89 N92q
  have f93_0 := f90_0.keep Kc92
  have f93_1 := Fb89.keep Kc92 (by simp)
  have f93_2 := Fz89.keep Kc92 (by simp)
  have f93_3 := Vb89.keep Kc92 (by simp)
  have Z92 : n0 ≤ T92.heap.size := Nat.le_trans Z89 Kc92.1
  have e92 : T92.heap = T92.heap := rfl
  have ne_b15_br92 : b15 ≠ br92 := Nat.ne_of_lt (Nat.lt_of_lt_of_le f90_0.lt sr92)
  have ne_bb_br92 : bb ≠ br92 := Nat.ne_of_lt (Nat.lt_of_lt_of_le Vb89.lt sr92)
  obtain ⟨cl94, Ar94, kc94, S94, M94, H94, G94⟩ := id Vr92
  obtain ⟨cl95, Ar95, kc95, S95, M95, H95, G95⟩ := id Vr92
  have hin95 := inb_of S95 (j := (0 : Int32)) (by decide)
  have hat95 : cl95.slots[((0 : Int32)).toNatClampNeg]? = some (.int ea) := H95.at hin95 rfl
  have pre96 : ∀ t, Steps p.tables e below (T92.setTop (mkF m 138 #[.val (.int p1), .val (.int p2), .val (.int p3), .val (.int (3 : Int32)), .val (.int xv), .val (.int yv), .val (.int vv), .val (.int ea), .val (.int eb), .val (.int ec2), .val (.ref b15), .val (.ref br21), .val (.ref br92), .unset] [(.int ((ea ^^^ (1 : Int32)).toInt8.toInt32)), (.int (0 : Int32)), (.ref br92)])) t → Steps p.tables e below (s₁.setTop (entryFrame m #[(.int p1), (.int p2), (.int p3)] maxLocals)) t := fun t k => pre91 t (by
    show Steps p.tables e below (T89.setTop (mkF m 107 #[.val (.int p1), .val (.int p2), .val (.int p3), .val (.int (3 : Int32)), .val (.int xv), .val (.int yv), .val (.int vv), .val (.int ea), .val (.int eb), .val (.int ec2), .val (.ref b15), .val (.ref br21), .unset, .unset] [(.ref b15)])) _
    refine st92.trans ?_
    show Steps p.tables e below (T92.setTop (mkF m 110 #[.val (.int p1), .val (.int p2), .val (.int p3), .val (.int (3 : Int32)), .val (.int xv), .val (.int yv), .val (.int vv), .val (.int ea), .val (.int eb), .val (.int ec2), .val (.ref b15), .val (.ref br21), .unset, .unset] [(.ref br92)])) _
    refine XS.astore X92.here hx rfl (hb hby at_110) rfl rfl (l' := #[.val (.int p1), .val (.int p2), .val (.int p3), .val (.int (3 : Int32)), .val (.int xv), .val (.int yv), .val (.int vv), .val (.int ea), .val (.int eb), .val (.int ec2), .val (.ref b15), .val (.ref br21), .val (.ref br92), .unset]) rfl ?_
    show Steps p.tables e below (T92.setTop (mkF m 112 #[.val (.int p1), .val (.int p2), .val (.int p3), .val (.int (3 : Int32)), .val (.int xv), .val (.int yv), .val (.int vv), .val (.int ea), .val (.int eb), .val (.int ec2), .val (.ref b15), .val (.ref br21), .val (.ref br92), .unset] [])) _
    refine XS.aload X92.here hx rfl (hb hby at_112) rfl rfl ?_
    show Steps p.tables e below (T92.setTop (mkF m 114 #[.val (.int p1), .val (.int p2), .val (.int p3), .val (.int (3 : Int32)), .val (.int xv), .val (.int yv), .val (.int vv), .val (.int ea), .val (.int eb), .val (.int ec2), .val (.ref b15), .val (.ref br21), .val (.ref br92), .unset] [(.ref br92)])) _
    refine X92.arraylength hx (cell := cl94) (by rw [e92]; exact Ar94.1) (State.isArrayOf_alike hZ.alike Ar94.2.1) (g := (mkF m 114 #[.val (.int p1), .val (.int p2), .val (.int p3), .val (.int (3 : Int32)), .val (.int xv), .val (.int yv), .val (.int vv), .val (.int ea), .val (.int eb), .val (.int ec2), .val (.ref b15), .val (.ref br21), .val (.ref br92), .unset] [(.ref br92)])) rfl (rest := []) rfl (hb hby at_114) _ ?_
    rw [len_of S94 M94]
    show Steps p.tables e below (T92.setTop (mkF m 115 #[.val (.int p1), .val (.int p2), .val (.int p3), .val (.int (3 : Int32)), .val (.int xv), .val (.int yv), .val (.int vv), .val (.int ea), .val (.int eb), .val (.int ec2), .val (.ref b15), .val (.ref br21), .val (.ref br92), .unset] [(.int (1 : Int32))])) _
    refine XS.iconst X92.here hx rfl (hb hby at_115) ?_
    show Steps p.tables e below (T92.setTop (mkF m 116 #[.val (.int p1), .val (.int p2), .val (.int p3), .val (.int (3 : Int32)), .val (.int xv), .val (.int yv), .val (.int vv), .val (.int ea), .val (.int eb), .val (.int ec2), .val (.ref b15), .val (.ref br21), .val (.ref br92), .unset] [(.int (1 : Int32)), (.int (1 : Int32))])) _
    refine XS.icmpNo X92.here hx rfl (hb hby at_116) rfl (XT.ii_ne_f rfl) ?_
    show Steps p.tables e below (T92.setTop (mkF m 119 #[.val (.int p1), .val (.int p2), .val (.int p3), .val (.int (3 : Int32)), .val (.int xv), .val (.int yv), .val (.int vv), .val (.int ea), .val (.int eb), .val (.int ec2), .val (.ref b15), .val (.ref br21), .val (.ref br92), .unset] [])) _
    refine XS.aload X92.here hx rfl (hb hby at_119) rfl rfl ?_
    show Steps p.tables e below (T92.setTop (mkF m 121 #[.val (.int p1), .val (.int p2), .val (.int p3), .val (.int (3 : Int32)), .val (.int xv), .val (.int yv), .val (.int vv), .val (.int ea), .val (.int eb), .val (.int ec2), .val (.ref b15), .val (.ref br21), .val (.ref br92), .unset] [(.ref br92)])) _
    refine XS.iconst X92.here hx rfl (hb hby at_121) ?_
    show Steps p.tables e below (T92.setTop (mkF m 122 #[.val (.int p1), .val (.int p2), .val (.int p3), .val (.int (3 : Int32)), .val (.int xv), .val (.int yv), .val (.int vv), .val (.int ea), .val (.int eb), .val (.int ec2), .val (.ref b15), .val (.ref br21), .val (.ref br92), .unset] [(.int (0 : Int32)), (.ref br92)])) _
    refine X92.baloadBytes hx (j := (0 : Int32)) (v := (.int ea)) (by rw [e92]; exact Ar95.1) (State.isArrayOf_alike hZ.alike Ar95.2.1) Ar95.2.2 hin95 hat95 (g := (mkF m 122 #[.val (.int p1), .val (.int p2), .val (.int p3), .val (.int (3 : Int32)), .val (.int xv), .val (.int yv), .val (.int vv), .val (.int ea), .val (.int eb), .val (.int ec2), .val (.ref b15), .val (.ref br21), .val (.ref br92), .unset] [(.int (0 : Int32)), (.ref br92)])) rfl rfl (hb hby at_122) _ ?_
    show Steps p.tables e below (T92.setTop (mkF m 123 #[.val (.int p1), .val (.int p2), .val (.int p3), .val (.int (3 : Int32)), .val (.int xv), .val (.int yv), .val (.int vv), .val (.int ea), .val (.int eb), .val (.int ec2), .val (.ref b15), .val (.ref br21), .val (.ref br92), .unset] [(.int ea)])) _
    refine XS.iload X92.here hx rfl (hb hby at_123) rfl ?_
    show Steps p.tables e below (T92.setTop (mkF m 125 #[.val (.int p1), .val (.int p2), .val (.int p3), .val (.int (3 : Int32)), .val (.int xv), .val (.int yv), .val (.int vv), .val (.int ea), .val (.int eb), .val (.int ec2), .val (.ref b15), .val (.ref br21), .val (.ref br92), .unset] [(.int ea), (.int ea)])) _
    refine XS.icmpYes X92.here hx rfl (pc0 := 125) (pc' := 130) rfl (hb hby at_125) rfl (XT.ii_eq_t rfl) (by decide) (by decide) ?_
    show Steps p.tables e below (T92.setTop (mkF m 130 #[.val (.int p1), .val (.int p2), .val (.int p3), .val (.int (3 : Int32)), .val (.int xv), .val (.int yv), .val (.int vv), .val (.int ea), .val (.int eb), .val (.int ec2), .val (.ref b15), .val (.ref br21), .val (.ref br92), .unset] [])) _
    refine XS.aload X92.here hx rfl (hb hby at_130) rfl rfl ?_
    show Steps p.tables e below (T92.setTop (mkF m 132 #[.val (.int p1), .val (.int p2), .val (.int p3), .val (.int (3 : Int32)), .val (.int xv), .val (.int yv), .val (.int vv), .val (.int ea), .val (.int eb), .val (.int ec2), .val (.ref b15), .val (.ref br21), .val (.ref br92), .unset] [(.ref br92)])) _
    refine XS.iconst X92.here hx rfl (hb hby at_132) ?_
    show Steps p.tables e below (T92.setTop (mkF m 133 #[.val (.int p1), .val (.int p2), .val (.int p3), .val (.int (3 : Int32)), .val (.int xv), .val (.int yv), .val (.int vv), .val (.int ea), .val (.int eb), .val (.int ec2), .val (.ref b15), .val (.ref br21), .val (.ref br92), .unset] [(.int (0 : Int32)), (.ref br92)])) _
    refine XS.iload X92.here hx rfl (hb hby at_133) rfl ?_
    show Steps p.tables e below (T92.setTop (mkF m 135 #[.val (.int p1), .val (.int p2), .val (.int p3), .val (.int (3 : Int32)), .val (.int xv), .val (.int yv), .val (.int vv), .val (.int ea), .val (.int eb), .val (.int ec2), .val (.ref b15), .val (.ref br21), .val (.ref br92), .unset] [(.int ea), (.int (0 : Int32)), (.ref br92)])) _
    refine XS.iconst X92.here hx rfl (hb hby at_135) ?_
    show Steps p.tables e below (T92.setTop (mkF m 136 #[.val (.int p1), .val (.int p2), .val (.int p3), .val (.int (3 : Int32)), .val (.int xv), .val (.int yv), .val (.int vv), .val (.int ea), .val (.int eb), .val (.int ec2), .val (.ref b15), .val (.ref br21), .val (.ref br92), .unset] [(.int (1 : Int32)), (.int ea), (.int (0 : Int32)), (.ref br92)])) _
    refine XT.ixor X92.here hx rfl (hb hby at_136) rfl ?_
    show Steps p.tables e below (T92.setTop (mkF m 137 #[.val (.int p1), .val (.int p2), .val (.int p3), .val (.int (3 : Int32)), .val (.int xv), .val (.int yv), .val (.int vv), .val (.int ea), .val (.int eb), .val (.int ec2), .val (.ref b15), .val (.ref br21), .val (.ref br92), .unset] [(.int (ea ^^^ (1 : Int32))), (.int (0 : Int32)), (.ref br92)])) _
    refine XT.i2b X92.here hx rfl (hb hby at_137) rfl ?_
    show Steps p.tables e below (T92.setTop (mkF m 138 #[.val (.int p1), .val (.int p2), .val (.int p3), .val (.int (3 : Int32)), .val (.int xv), .val (.int yv), .val (.int vv), .val (.int ea), .val (.int eb), .val (.int ec2), .val (.ref b15), .val (.ref br21), .val (.ref br92), .unset] [(.int ((ea ^^^ (1 : Int32)).toInt8.toInt32)), (.int (0 : Int32)), (.ref br92)])) _
    exact k)
  obtain ⟨cl97, Ar97, kc97, S97, M97, H97, G97⟩ := id Vr92
  have hin97 := inb_of S97 (j := (0 : Int32)) (by decide)
  obtain ⟨T97, h97, X97, e97, W97, st97⟩ := stB X92 hx hZ e92 Ar97 (j := (0 : Int32)) hin97 (g := (mkF m 138 #[.val (.int p1), .val (.int p2), .val (.int p3), .val (.int (3 : Int32)), .val (.int xv), .val (.int yv), .val (.int vv), .val (.int ea), .val (.int eb), .val (.int ec2), .val (.ref b15), .val (.ref br21), .val (.ref br92), .unset] [(.int ((ea ^^^ (1 : Int32)).toInt8.toInt32)), (.int (0 : Int32)), (.ref br92)])) rfl rfl (hb hby at_138)
  have V97 : Arv Z h97 br92 kr92 .byte (1 : Int32) [(.int (nar .byte ((ea ^^^ (1 : Int32)).toInt8.toInt32)))] (.int (0 : Int32)) := Arv.set Ar97 kc97 S97 M97 H97 G97 (v := (.int (nar .byte ((ea ^^^ (1 : Int32)).toInt8.toInt32)))) (fits_nar_byte _) W97 0 (by decide) (by simp)
  have N97 := Fr.snoc X97 N92 g_br92
  have f98_0 := f93_0.wr W97
  have f98_1 := f93_1.other W97 (Or.inl ne_b15_br92)
  have f98_2 := f93_2.other W97 (Or.inl ne_b15_br92)
  have f98_3 := f93_3.other W97 ne_bb_br92
  have Z97 : n0 ≤ h97.size := Nat.le_trans Z92 (Keep.of_wr W97).1
  have pre99 : ∀ t, Steps p.tables e below (T97.setTop (mkF m 139 #[.val (.int p1), .val (.int p2), .val (.int p3), .val (.int (3 : Int32)), .val (.int xv), .val (.int yv), .val (.int vv), .val (.int ea), .val (.int eb), .val (.int ec2), .val (.ref b15), .val (.ref br21), .val (.ref br92), .unset] [])) t → Steps p.tables e below (s₁.setTop (entryFrame m #[(.int p1), (.int p2), (.int p3)] maxLocals)) t := fun t k => pre96 t (by
    show Steps p.tables e below (T92.setTop (mkF m 138 #[.val (.int p1), .val (.int p2), .val (.int p3), .val (.int (3 : Int32)), .val (.int xv), .val (.int yv), .val (.int vv), .val (.int ea), .val (.int eb), .val (.int ec2), .val (.ref b15), .val (.ref br21), .val (.ref br92), .unset] [(.int ((ea ^^^ (1 : Int32)).toInt8.toInt32)), (.int (0 : Int32)), (.ref br92)])) _
    refine st97 _ ?_
    show Steps p.tables e below (T97.setTop (mkF m 139 #[.val (.int p1), .val (.int p2), .val (.int p3), .val (.int (3 : Int32)), .val (.int xv), .val (.int yv), .val (.int vv), .val (.int ea), .val (.int eb), .val (.int ec2), .val (.ref b15), .val (.ref br21), .val (.ref br92), .unset] [])) _
    exact k)
  exact rs_0_10 l Z a0 hw ws p1 p2 p3 h0 n0 xv yv vv ea eb ec2 b15 bb kb br21 br92 Bd hZ hml h97 X97 e97 N97 Z97 pre99 f98_0 f98_1 f98_2 f98_3 ne_b15_bb ne_b15_br21 ne_bb_br21 ne_b15_br92 ne_bb_br92 g_b15 g_bb g_br21 g_br92 b_vv h_ea h_eb h_ec2
set_option maxRecDepth 65536 in
set_option maxHeartbeats 40000000 in
theorem rs_0_8 (l : Launch) (Z : State) (a0 : Array Value) (hw : ∀ d ∈ tables_1, d.before a0 Z = true) (ws : List Jvm.Cond) (p1 p2 p3 : Int32) (h0 : Heap) (n0 : Nat) (xv : Int32) (yv : Int32) (vv : Int32) (ea : Int32) (eb : Int32) (ec2 : Int32) (b15 : Addr) (bb : Addr) (kb : ClassId) (br73 : Addr) (kr73 : ClassId) (br21 : Addr) (br61 : Addr) {p e s m below meth c s₁} (Bd : BodyLoose p l x (head1 (Jvm.Cond.code x code maxLocals ret :: ws) room_1) code maxLocals ret e s m #[(.int p1), (.int p2), (.int p3)] below meth c s₁) (hZ : Z.Warmed39 s.vm) (hml : c.maxLocals = 14) {Tc Lc0} (hhc : Heap) (Xc : Stand p l e room_1 s m #[(.int p1), (.int p2), (.int p3)] below meth c Tc Lc0 5 523) (ec : Tc.heap = hhc) (Nc : Fr n0 Lc0) (Zc : n0 ≤ hhc.size) (prec : ∀ t, Steps p.tables e below (Tc.setTop (mkF m 180 #[.val (.int p1), .val (.int p2), .val (.int p3), .val (.int (2 : Int32)), .val (.int xv), .val (.int yv), .val (.int vv), .val (.int ea), .val (.int eb), .val (.int ec2), .val (.ref b15), .val (.ref br21), .val (.ref br73), .unset] [])) t → Steps p.tables e below (s₁.setTop (entryFrame m #[(.int p1), (.int p2), (.int p3)] maxLocals)) t) (fc8_0 : Exa Z hhc b15 "com/example/spanfacet/spanfacet/MsgpackWriter") (fc8_1 : Fld Z hhc b15 "com/example/spanfacet/spanfacet/MsgpackWriter" "buffer" "[B" (.ref bb)) (fc8_2 : Fld Z hhc b15 "com/example/spanfacet/spanfacet/MsgpackWriter" "size" "I" (.int (2 : Int32))) (fc8_3 : Arv Z hhc bb kb .byte (512 : Int32) [(.int ea), (.int eb)] (.int (0 : Int32))) (fc8_4 : Arv Z hhc br73 kr73 .byte (2 : Int32) [(.int ea), (.int eb)] (.int (0 : Int32))) (ne_b15_bb : b15 ≠ bb) (ne_b15_br21 : b15 ≠ br21) (ne_bb_br21 : bb ≠ br21) (ne_b15_br61 : b15 ≠ br61) (ne_bb_br61 : bb ≠ br61) (ne_b15_br73 : b15 ≠ br73) (ne_bb_br73 : bb ≠ br73) (g_b15 : n0 ≤ b15) (g_bb : n0 ≤ bb) (g_br21 : n0 ≤ br21) (g_br61 : n0 ≤ br61) (g_br73 : n0 ≤ br73) (b_vv : ¬ vv.toInt64 < (0 : Int64) ∧ ¬ (127 : Int64) < vv.toInt64) (h_ea : (xv = 0 → ea = (-62 : Int32)) ∧ (¬ xv = 0 → ea = (-61 : Int32))) (h_eb : vv.toInt8.toInt32 = eb) (h_ec2 : (yv = 0 → ec2 = (-62 : Int32)) ∧ (¬ yv = 0 → ec2 = (-61 : Int32))) :
    ∃ s₂ o, Steps p.tables e below (s₁.setTop (entryFrame m #[(.int p1), (.int p2), (.int p3)] maxLocals)) s₂ ∧ s₂.status = .running ∧ Ended s₂ below o ∧ ∃ v L, o = .returned v ∧ Q_0 Z p1 p2 p3 h0 n0 v s₂.heap L ∧ FrameEnd s o s₂ L room_1.cells room_1.slots := by
  have hx := Bd.exec
  have hby := Bd.bytes
  have hown : s.vm.findClass "com/example/spanfacet/spanfacet/MsgpackWriterToByteArrayPinLaw" = some m.cls := findClass_of_methodNamed Bd.named
  have hnm := (name_of_methodNamed Bd.named Bd.method).1
  obtain ⟨cl77, Ar77, kc77, S77, M77, H77, G77⟩ := id fc8_4
  have hin77 := inb_of S77 (j := (0 : Int32)) (by decide)
  have hat77 : cl77.slots[((0 : Int32)).toNatClampNeg]? = some (.int ea) := H77.at hin77 rfl
  obtain ⟨cl78, Ar78, kc78, S78, M78, H78, G78⟩ := id fc8_4
  have hin78 := inb_of S78 (j := (1 : Int32)) (by decide)
  have hat78 : cl78.slots[((1 : Int32)).toNatClampNeg]? = some (.int eb) := H78.at hin78 rfl
  have pre79 : ∀ t, Steps p.tables e below (Tc.setTop (mkF m 241 #[.val (.int p1), .val (.int p2), .val (.int p3), .val (.int (2 : Int32)), .val (.int xv), .val (.int yv), .val (.int vv), .val (.int ea), .val (.int eb), .val (.int ec2), .val (.ref b15), .val (.ref br21), .val (.ref br73), .unset] [(.int ((ea ^^^ (1 : Int32)).toInt8.toInt32)), (.int (0 : Int32)), (.ref br73)])) t → Steps p.tables e below (s₁.setTop (entryFrame m #[(.int p1), (.int p2), (.int p3)] maxLocals)) t := fun t k => prec t (by
    show Steps p.tables e below (Tc.setTop (mkF m 180 #[.val (.int p1), .val (.int p2), .val (.int p3), .val (.int (2 : Int32)), .val (.int xv), .val (.int yv), .val (.int vv), .val (.int ea), .val (.int eb), .val (.int ec2), .val (.ref b15), .val (.ref br21), .val (.ref br73), .unset] [])) _
    refine XS.iloadN Xc.here hx rfl (hb hby at_180) rfl ?_
    show Steps p.tables e below (Tc.setTop (mkF m 181 #[.val (.int p1), .val (.int p2), .val (.int p3), .val (.int (2 : Int32)), .val (.int xv), .val (.int yv), .val (.int vv), .val (.int ea), .val (.int eb), .val (.int ec2), .val (.ref b15), .val (.ref br21), .val (.ref br73), .unset] [(.int (2 : Int32))])) _
    refine XS.iconst Xc.here hx rfl (hb hby at_181) ?_
    show Steps p.tables e below (Tc.setTop (mkF m 182 #[.val (.int p1), .val (.int p2), .val (.int p3), .val (.int (2 : Int32)), .val (.int xv), .val (.int yv), .val (.int vv), .val (.int ea), .val (.int eb), .val (.int ec2), .val (.ref b15), .val (.ref br21), .val (.ref br73), .unset] [(.int (1 : Int32)), (.int (2 : Int32))])) _
    refine XS.icmpNo Xc.here hx rfl (hb hby at_182) rfl (XT.ii_lt_f (by decide)) ?_
    show Steps p.tables e below (Tc.setTop (mkF m 185 #[.val (.int p1), .val (.int p2), .val (.int p3), .val (.int (2 : Int32)), .val (.int xv), .val (.int yv), .val (.int vv), .val (.int ea), .val (.int eb), .val (.int ec2), .val (.ref b15), .val (.ref br21), .val (.ref br73), .unset] [])) _
    refine XS.aload Xc.here hx rfl (hb hby at_185) rfl rfl ?_
    show Steps p.tables e below (Tc.setTop (mkF m 187 #[.val (.int p1), .val (.int p2), .val (.int p3), .val (.int (2 : Int32)), .val (.int xv), .val (.int yv), .val (.int vv), .val (.int ea), .val (.int eb), .val (.int ec2), .val (.ref b15), .val (.ref br21), .val (.ref br73), .unset] [(.ref br73)])) _
    refine XS.iconst Xc.here hx rfl (hb hby at_187) ?_
    show Steps p.tables e below (Tc.setTop (mkF m 188 #[.val (.int p1), .val (.int p2), .val (.int p3), .val (.int (2 : Int32)), .val (.int xv), .val (.int yv), .val (.int vv), .val (.int ea), .val (.int eb), .val (.int ec2), .val (.ref b15), .val (.ref br21), .val (.ref br73), .unset] [(.int (0 : Int32)), (.ref br73)])) _
    refine Xc.baloadBytes hx (j := (0 : Int32)) (v := (.int ea)) (by rw [ec]; exact Ar77.1) (State.isArrayOf_alike hZ.alike Ar77.2.1) Ar77.2.2 hin77 hat77 (g := (mkF m 188 #[.val (.int p1), .val (.int p2), .val (.int p3), .val (.int (2 : Int32)), .val (.int xv), .val (.int yv), .val (.int vv), .val (.int ea), .val (.int eb), .val (.int ec2), .val (.ref b15), .val (.ref br21), .val (.ref br73), .unset] [(.int (0 : Int32)), (.ref br73)])) rfl rfl (hb hby at_188) _ ?_
    show Steps p.tables e below (Tc.setTop (mkF m 189 #[.val (.int p1), .val (.int p2), .val (.int p3), .val (.int (2 : Int32)), .val (.int xv), .val (.int yv), .val (.int vv), .val (.int ea), .val (.int eb), .val (.int ec2), .val (.ref b15), .val (.ref br21), .val (.ref br73), .unset] [(.int ea)])) _
    refine XS.iload Xc.here hx rfl (hb hby at_189) rfl ?_
    show Steps p.tables e below (Tc.setTop (mkF m 191 #[.val (.int p1), .val (.int p2), .val (.int p3), .val (.int (2 : Int32)), .val (.int xv), .val (.int yv), .val (.int vv), .val (.int ea), .val (.int eb), .val (.int ec2), .val (.ref b15), .val (.ref br21), .val (.ref br73), .unset] [(.int ea), (.int ea)])) _
    refine XS.icmpYes Xc.here hx rfl (pc0 := 191) (pc' := 196) rfl (hb hby at_191) rfl (XT.ii_eq_t rfl) (by decide) (by decide) ?_
    show Steps p.tables e below (Tc.setTop (mkF m 196 #[.val (.int p1), .val (.int p2), .val (.int p3), .val (.int (2 : Int32)), .val (.int xv), .val (.int yv), .val (.int vv), .val (.int ea), .val (.int eb), .val (.int ec2), .val (.ref b15), .val (.ref br21), .val (.ref br73), .unset] [])) _
    refine XS.iloadN Xc.here hx rfl (hb hby at_196) rfl ?_
    show Steps p.tables e below (Tc.setTop (mkF m 197 #[.val (.int p1), .val (.int p2), .val (.int p3), .val (.int (2 : Int32)), .val (.int xv), .val (.int yv), .val (.int vv), .val (.int ea), .val (.int eb), .val (.int ec2), .val (.ref b15), .val (.ref br21), .val (.ref br73), .unset] [(.int (2 : Int32))])) _
    refine XS.iconst Xc.here hx rfl (hb hby at_197) ?_
    show Steps p.tables e below (Tc.setTop (mkF m 198 #[.val (.int p1), .val (.int p2), .val (.int p3), .val (.int (2 : Int32)), .val (.int xv), .val (.int yv), .val (.int vv), .val (.int ea), .val (.int eb), .val (.int ec2), .val (.ref b15), .val (.ref br21), .val (.ref br73), .unset] [(.int (2 : Int32)), (.int (2 : Int32))])) _
    refine XS.icmpNo Xc.here hx rfl (hb hby at_198) rfl (XT.ii_lt_f (by decide)) ?_
    show Steps p.tables e below (Tc.setTop (mkF m 201 #[.val (.int p1), .val (.int p2), .val (.int p3), .val (.int (2 : Int32)), .val (.int xv), .val (.int yv), .val (.int vv), .val (.int ea), .val (.int eb), .val (.int ec2), .val (.ref b15), .val (.ref br21), .val (.ref br73), .unset] [])) _
    refine XS.aload Xc.here hx rfl (hb hby at_201) rfl rfl ?_
    show Steps p.tables e below (Tc.setTop (mkF m 203 #[.val (.int p1), .val (.int p2), .val (.int p3), .val (.int (2 : Int32)), .val (.int xv), .val (.int yv), .val (.int vv), .val (.int ea), .val (.int eb), .val (.int ec2), .val (.ref b15), .val (.ref br21), .val (.ref br73), .unset] [(.ref br73)])) _
    refine XS.iconst Xc.here hx rfl (hb hby at_203) ?_
    show Steps p.tables e below (Tc.setTop (mkF m 204 #[.val (.int p1), .val (.int p2), .val (.int p3), .val (.int (2 : Int32)), .val (.int xv), .val (.int yv), .val (.int vv), .val (.int ea), .val (.int eb), .val (.int ec2), .val (.ref b15), .val (.ref br21), .val (.ref br73), .unset] [(.int (1 : Int32)), (.ref br73)])) _
    refine Xc.baloadBytes hx (j := (1 : Int32)) (v := (.int eb)) (by rw [ec]; exact Ar78.1) (State.isArrayOf_alike hZ.alike Ar78.2.1) Ar78.2.2 hin78 hat78 (g := (mkF m 204 #[.val (.int p1), .val (.int p2), .val (.int p3), .val (.int (2 : Int32)), .val (.int xv), .val (.int yv), .val (.int vv), .val (.int ea), .val (.int eb), .val (.int ec2), .val (.ref b15), .val (.ref br21), .val (.ref br73), .unset] [(.int (1 : Int32)), (.ref br73)])) rfl rfl (hb hby at_204) _ ?_
    show Steps p.tables e below (Tc.setTop (mkF m 205 #[.val (.int p1), .val (.int p2), .val (.int p3), .val (.int (2 : Int32)), .val (.int xv), .val (.int yv), .val (.int vv), .val (.int ea), .val (.int eb), .val (.int ec2), .val (.ref b15), .val (.ref br21), .val (.ref br73), .unset] [(.int eb)])) _
    refine XS.iload Xc.here hx rfl (hb hby at_205) rfl ?_
    show Steps p.tables e below (Tc.setTop (mkF m 207 #[.val (.int p1), .val (.int p2), .val (.int p3), .val (.int (2 : Int32)), .val (.int xv), .val (.int yv), .val (.int vv), .val (.int ea), .val (.int eb), .val (.int ec2), .val (.ref b15), .val (.ref br21), .val (.ref br73), .unset] [(.int eb), (.int eb)])) _
    refine XS.icmpYes Xc.here hx rfl (pc0 := 207) (pc' := 212) rfl (hb hby at_207) rfl (XT.ii_eq_t rfl) (by decide) (by decide) ?_
    show Steps p.tables e below (Tc.setTop (mkF m 212 #[.val (.int p1), .val (.int p2), .val (.int p3), .val (.int (2 : Int32)), .val (.int xv), .val (.int yv), .val (.int vv), .val (.int ea), .val (.int eb), .val (.int ec2), .val (.ref b15), .val (.ref br21), .val (.ref br73), .unset] [])) _
    refine XS.iloadN Xc.here hx rfl (hb hby at_212) rfl ?_
    show Steps p.tables e below (Tc.setTop (mkF m 213 #[.val (.int p1), .val (.int p2), .val (.int p3), .val (.int (2 : Int32)), .val (.int xv), .val (.int yv), .val (.int vv), .val (.int ea), .val (.int eb), .val (.int ec2), .val (.ref b15), .val (.ref br21), .val (.ref br73), .unset] [(.int (2 : Int32))])) _
    refine XS.iconst Xc.here hx rfl (hb hby at_213) ?_
    show Steps p.tables e below (Tc.setTop (mkF m 214 #[.val (.int p1), .val (.int p2), .val (.int p3), .val (.int (2 : Int32)), .val (.int xv), .val (.int yv), .val (.int vv), .val (.int ea), .val (.int eb), .val (.int ec2), .val (.ref b15), .val (.ref br21), .val (.ref br73), .unset] [(.int (3 : Int32)), (.int (2 : Int32))])) _
    refine XS.icmpYes Xc.here hx rfl (pc0 := 214) (pc' := 228) rfl (hb hby at_214) rfl (XT.ii_lt_t (by decide)) (by decide) (by decide) ?_
    show Steps p.tables e below (Tc.setTop (mkF m 228 #[.val (.int p1), .val (.int p2), .val (.int p3), .val (.int (2 : Int32)), .val (.int xv), .val (.int yv), .val (.int vv), .val (.int ea), .val (.int eb), .val (.int ec2), .val (.ref b15), .val (.ref br21), .val (.ref br73), .unset] [])) _
    refine XS.iloadN Xc.here hx rfl (hb hby at_228) rfl ?_
    show Steps p.tables e below (Tc.setTop (mkF m 229 #[.val (.int p1), .val (.int p2), .val (.int p3), .val (.int (2 : Int32)), .val (.int xv), .val (.int yv), .val (.int vv), .val (.int ea), .val (.int eb), .val (.int ec2), .val (.ref b15), .val (.ref br21), .val (.ref br73), .unset] [(.int (2 : Int32))])) _
    refine XS.iconst Xc.here hx rfl (hb hby at_229) ?_
    show Steps p.tables e below (Tc.setTop (mkF m 230 #[.val (.int p1), .val (.int p2), .val (.int p3), .val (.int (2 : Int32)), .val (.int xv), .val (.int yv), .val (.int vv), .val (.int ea), .val (.int eb), .val (.int ec2), .val (.ref b15), .val (.ref br21), .val (.ref br73), .unset] [(.int (1 : Int32)), (.int (2 : Int32))])) _
    refine XS.icmpNo Xc.here hx rfl (hb hby at_230) rfl (XT.ii_lt_f (by decide)) ?_
    show Steps p.tables e below (Tc.setTop (mkF m 233 #[.val (.int p1), .val (.int p2), .val (.int p3), .val (.int (2 : Int32)), .val (.int xv), .val (.int yv), .val (.int vv), .val (.int ea), .val (.int eb), .val (.int ec2), .val (.ref b15), .val (.ref br21), .val (.ref br73), .unset] [])) _
    refine XS.aload Xc.here hx rfl (hb hby at_233) rfl rfl ?_
    show Steps p.tables e below (Tc.setTop (mkF m 235 #[.val (.int p1), .val (.int p2), .val (.int p3), .val (.int (2 : Int32)), .val (.int xv), .val (.int yv), .val (.int vv), .val (.int ea), .val (.int eb), .val (.int ec2), .val (.ref b15), .val (.ref br21), .val (.ref br73), .unset] [(.ref br73)])) _
    refine XS.iconst Xc.here hx rfl (hb hby at_235) ?_
    show Steps p.tables e below (Tc.setTop (mkF m 236 #[.val (.int p1), .val (.int p2), .val (.int p3), .val (.int (2 : Int32)), .val (.int xv), .val (.int yv), .val (.int vv), .val (.int ea), .val (.int eb), .val (.int ec2), .val (.ref b15), .val (.ref br21), .val (.ref br73), .unset] [(.int (0 : Int32)), (.ref br73)])) _
    refine XS.iload Xc.here hx rfl (hb hby at_236) rfl ?_
    show Steps p.tables e below (Tc.setTop (mkF m 238 #[.val (.int p1), .val (.int p2), .val (.int p3), .val (.int (2 : Int32)), .val (.int xv), .val (.int yv), .val (.int vv), .val (.int ea), .val (.int eb), .val (.int ec2), .val (.ref b15), .val (.ref br21), .val (.ref br73), .unset] [(.int ea), (.int (0 : Int32)), (.ref br73)])) _
    refine XS.iconst Xc.here hx rfl (hb hby at_238) ?_
    show Steps p.tables e below (Tc.setTop (mkF m 239 #[.val (.int p1), .val (.int p2), .val (.int p3), .val (.int (2 : Int32)), .val (.int xv), .val (.int yv), .val (.int vv), .val (.int ea), .val (.int eb), .val (.int ec2), .val (.ref b15), .val (.ref br21), .val (.ref br73), .unset] [(.int (1 : Int32)), (.int ea), (.int (0 : Int32)), (.ref br73)])) _
    refine XT.ixor Xc.here hx rfl (hb hby at_239) rfl ?_
    show Steps p.tables e below (Tc.setTop (mkF m 240 #[.val (.int p1), .val (.int p2), .val (.int p3), .val (.int (2 : Int32)), .val (.int xv), .val (.int yv), .val (.int vv), .val (.int ea), .val (.int eb), .val (.int ec2), .val (.ref b15), .val (.ref br21), .val (.ref br73), .unset] [(.int (ea ^^^ (1 : Int32))), (.int (0 : Int32)), (.ref br73)])) _
    refine XT.i2b Xc.here hx rfl (hb hby at_240) rfl ?_
    show Steps p.tables e below (Tc.setTop (mkF m 241 #[.val (.int p1), .val (.int p2), .val (.int p3), .val (.int (2 : Int32)), .val (.int xv), .val (.int yv), .val (.int vv), .val (.int ea), .val (.int eb), .val (.int ec2), .val (.ref b15), .val (.ref br21), .val (.ref br73), .unset] [(.int ((ea ^^^ (1 : Int32)).toInt8.toInt32)), (.int (0 : Int32)), (.ref br73)])) _
    exact k)
  obtain ⟨cl80, Ar80, kc80, S80, M80, H80, G80⟩ := id fc8_4
  have hin80 := inb_of S80 (j := (0 : Int32)) (by decide)
  obtain ⟨T80, h80, X80, e80, W80, st80⟩ := stB Xc hx hZ ec Ar80 (j := (0 : Int32)) hin80 (g := (mkF m 241 #[.val (.int p1), .val (.int p2), .val (.int p3), .val (.int (2 : Int32)), .val (.int xv), .val (.int yv), .val (.int vv), .val (.int ea), .val (.int eb), .val (.int ec2), .val (.ref b15), .val (.ref br21), .val (.ref br73), .unset] [(.int ((ea ^^^ (1 : Int32)).toInt8.toInt32)), (.int (0 : Int32)), (.ref br73)])) rfl rfl (hb hby at_241)
  have V80 : Arv Z h80 br73 kr73 .byte (2 : Int32) [(.int (nar .byte ((ea ^^^ (1 : Int32)).toInt8.toInt32))), (.int eb)] (.int (0 : Int32)) := Arv.set Ar80 kc80 S80 M80 H80 G80 (v := (.int (nar .byte ((ea ^^^ (1 : Int32)).toInt8.toInt32)))) (fits_nar_byte _) W80 0 (by decide) (by simp)
  have N80 := Fr.snoc X80 Nc g_br73
  have f81_0 := fc8_0.wr W80
  have f81_1 := fc8_1.other W80 (Or.inl ne_b15_br73)
  have f81_2 := fc8_2.other W80 (Or.inl ne_b15_br73)
  have f81_3 := fc8_3.other W80 ne_bb_br73
  have Z80 : n0 ≤ h80.size := Nat.le_trans Zc (Keep.of_wr W80).1
  have pre82 : ∀ t, Steps p.tables e below (T80.setTop (mkF m 244 #[.val (.int p1), .val (.int p2), .val (.int p3), .val (.int (2 : Int32)), .val (.int xv), .val (.int yv), .val (.int vv), .val (.int ea), .val (.int eb), .val (.int ec2), .val (.ref b15), .val (.ref br21), .val (.ref br73), .unset] [(.ref b15)])) t → Steps p.tables e below (s₁.setTop (entryFrame m #[(.int p1), (.int p2), (.int p3)] maxLocals)) t := fun t k => pre79 t (by
    show Steps p.tables e below (Tc.setTop (mkF m 241 #[.val (.int p1), .val (.int p2), .val (.int p3), .val (.int (2 : Int32)), .val (.int xv), .val (.int yv), .val (.int vv), .val (.int ea), .val (.int eb), .val (.int ec2), .val (.ref b15), .val (.ref br21), .val (.ref br73), .unset] [(.int ((ea ^^^ (1 : Int32)).toInt8.toInt32)), (.int (0 : Int32)), (.ref br73)])) _
    refine st80 _ ?_
    show Steps p.tables e below (T80.setTop (mkF m 242 #[.val (.int p1), .val (.int p2), .val (.int p3), .val (.int (2 : Int32)), .val (.int xv), .val (.int yv), .val (.int vv), .val (.int ea), .val (.int eb), .val (.int ec2), .val (.ref b15), .val (.ref br21), .val (.ref br73), .unset] [])) _
    refine XS.aload X80.here hx rfl (hb hby at_242) rfl rfl ?_
    show Steps p.tables e below (T80.setTop (mkF m 244 #[.val (.int p1), .val (.int p2), .val (.int p3), .val (.int (2 : Int32)), .val (.int xv), .val (.int yv), .val (.int vv), .val (.int ea), .val (.int eb), .val (.int ec2), .val (.ref b15), .val (.ref br21), .val (.ref br73), .unset] [(.ref b15)])) _
    exact k)
  obtain ⟨cq83, kq83, q83a, q83b, q83c⟩ := isOf hZ e80 f81_0
  obtain ⟨_, _, ⟨T83, L83, kk83, nn83⟩, -, X83, ⟨Lc83, hQ83, l83, y83, z83⟩, st83⟩ := X80.virtualBack hx (y := (⟨"com/example/spanfacet/spanfacet/MsgpackWriter", "toByteArray", "()[B"⟩ : MethodName)) (z := (⟨"com/example/spanfacet/spanfacet/MsgpackWriter", "toByteArray", "()[B"⟩ : MethodName)) hown (mvT hZ (hw _ (List.mem_of_getElem? (i := 12) rfl))) (mvT hZ (hw _ (List.mem_of_getElem? (i := 13) rfl))) (notFace_of_selects (args := #[]) (mvT hZ (hw _ (List.mem_of_getElem? (i := 15) rfl)))) (mvT hZ (hw _ (List.mem_of_getElem? (i := 15) rfl))) (mvT hZ (hw _ (List.mem_of_getElem? (i := 14) rfl))) (by decide) (backOf (W := 0) (rm_tba l Z a0 hw [] b15 bb (2 : Int32) kb [(.int ea), (.int eb)] h80 n0 Z80 f81_1 f81_2 f81_3 (show (2 : Int32) = Int32.ofNat 2 from by decide) (show 2 ≤ 3 from by decide)) hZ (hw _ (List.mem_of_getElem? (i := 16) rfl)) (hw _ (List.mem_of_getElem? (i := 2) rfl)) (by decide) (by decide)) q83a q83c (g := (mkF m 244 #[.val (.int p1), .val (.int p2), .val (.int p3), .val (.int (2 : Int32)), .val (.int xv), .val (.int yv), .val (.int vv), .val (.int ea), .val (.int eb), .val (.int ec2), .val (.ref b15), .val (.ref br21), .val (.ref br73), .unset] [(.ref b15)])) rfl (by rw [hml]; rfl) (Steps.refl _) (argsL := []) (rest := []) (lenOf pd____B rfl) rfl (by show 2 * 0 + _ ≤ _; exact Nat.le_of_eq rfl) (hb hby at_244) (fun _ _ => ⟨rfl, e80, (by decide : 5 + 1 ≤ _), (by decide : 523 + 3 ≤ _)⟩)
  dsimp only [Pt.U, Pt.locs, Pt.cells, Pt.slots] at X83 l83 y83 z83 st83 hQ83
  subst l83 y83 z83
  obtain ⟨br83, kr83, rfl, N83q, Kc83, g_br83, sr83, Vr83⟩ := hQ83
  have N83 := Fr.app N80 N83q
  have f84_0 := f81_0.keep Kc83
  have f84_1 := f81_1.keep Kc83 (by simp)
  have f84_2 := f81_2.keep Kc83 (by simp)
  have f84_3 := f81_3.keep Kc83 (by simp)
  have Z83 : n0 ≤ T83.heap.size := Nat.le_trans Z80 Kc83.1
  have e83 : T83.heap = T83.heap := rfl
  have ne_b15_br83 : b15 ≠ br83 := Nat.ne_of_lt (Nat.lt_of_lt_of_le f81_0.lt sr83)
  have ne_bb_br83 : bb ≠ br83 := Nat.ne_of_lt (Nat.lt_of_lt_of_le f81_3.lt sr83)
  obtain ⟨cl85, Ar85, kc85, S85, M85, H85, G85⟩ := id Vr83
  obtain ⟨cl86, Ar86, kc86, S86, M86, H86, G86⟩ := id Vr83
  have hin86 := inb_of S86 (j := (0 : Int32)) (by decide)
  have hat86 : cl86.slots[((0 : Int32)).toNatClampNeg]? = some (.int ea) := H86.at hin86 rfl
  have pre87 : ∀ t, Steps p.tables e below (T83.setTop (mkF m 268 #[.val (.int p1), .val (.int p2), .val (.int p3), .val (.int (2 : Int32)), .val (.int xv), .val (.int yv), .val (.int vv), .val (.int ea), .val (.int eb), .val (.int ec2), .val (.ref b15), .val (.ref br21), .val (.ref br73), .val (.ref br83)] [(.int (1 : Int32))])) t → Steps p.tables e below (s₁.setTop (entryFrame m #[(.int p1), (.int p2), (.int p3)] maxLocals)) t := fun t k => pre82 t (by
    show Steps p.tables e below (T80.setTop (mkF m 244 #[.val (.int p1), .val (.int p2), .val (.int p3), .val (.int (2 : Int32)), .val (.int xv), .val (.int yv), .val (.int vv), .val (.int ea), .val (.int eb), .val (.int ec2), .val (.ref b15), .val (.ref br21), .val (.ref br73), .unset] [(.ref b15)])) _
    refine st83.trans ?_
    show Steps p.tables e below (T83.setTop (mkF m 247 #[.val (.int p1), .val (.int p2), .val (.int p3), .val (.int (2 : Int32)), .val (.int xv), .val (.int yv), .val (.int vv), .val (.int ea), .val (.int eb), .val (.int ec2), .val (.ref b15), .val (.ref br21), .val (.ref br73), .unset] [(.ref br83)])) _
    refine XS.astore X83.here hx rfl (hb hby at_247) rfl rfl (l' := #[.val (.int p1), .val (.int p2), .val (.int p3), .val (.int (2 : Int32)), .val (.int xv), .val (.int yv), .val (.int vv), .val (.int ea), .val (.int eb), .val (.int ec2), .val (.ref b15), .val (.ref br21), .val (.ref br73), .val (.ref br83)]) rfl ?_
    show Steps p.tables e below (T83.setTop (mkF m 249 #[.val (.int p1), .val (.int p2), .val (.int p3), .val (.int (2 : Int32)), .val (.int xv), .val (.int yv), .val (.int vv), .val (.int ea), .val (.int eb), .val (.int ec2), .val (.ref b15), .val (.ref br21), .val (.ref br73), .val (.ref br83)] [])) _
    refine XS.aload X83.here hx rfl (hb hby at_249) rfl rfl ?_
    show Steps p.tables e below (T83.setTop (mkF m 251 #[.val (.int p1), .val (.int p2), .val (.int p3), .val (.int (2 : Int32)), .val (.int xv), .val (.int yv), .val (.int vv), .val (.int ea), .val (.int eb), .val (.int ec2), .val (.ref b15), .val (.ref br21), .val (.ref br73), .val (.ref br83)] [(.ref br83)])) _
    refine X83.arraylength hx (cell := cl85) (by rw [e83]; exact Ar85.1) (State.isArrayOf_alike hZ.alike Ar85.2.1) (g := (mkF m 251 #[.val (.int p1), .val (.int p2), .val (.int p3), .val (.int (2 : Int32)), .val (.int xv), .val (.int yv), .val (.int vv), .val (.int ea), .val (.int eb), .val (.int ec2), .val (.ref b15), .val (.ref br21), .val (.ref br73), .val (.ref br83)] [(.ref br83)])) rfl (rest := []) rfl (hb hby at_251) _ ?_
    rw [len_of S85 M85]
    show Steps p.tables e below (T83.setTop (mkF m 252 #[.val (.int p1), .val (.int p2), .val (.int p3), .val (.int (2 : Int32)), .val (.int xv), .val (.int yv), .val (.int vv), .val (.int ea), .val (.int eb), .val (.int ec2), .val (.ref b15), .val (.ref br21), .val (.ref br73), .val (.ref br83)] [(.int (2 : Int32))])) _
    refine XS.iloadN X83.here hx rfl (hb hby at_252) rfl ?_
    show Steps p.tables e below (T83.setTop (mkF m 253 #[.val (.int p1), .val (.int p2), .val (.int p3), .val (.int (2 : Int32)), .val (.int xv), .val (.int yv), .val (.int vv), .val (.int ea), .val (.int eb), .val (.int ec2), .val (.ref b15), .val (.ref br21), .val (.ref br73), .val (.ref br83)] [(.int (2 : Int32)), (.int (2 : Int32))])) _
    refine XS.icmpNo X83.here hx rfl (hb hby at_253) rfl (XT.ii_ne_f rfl) ?_
    show Steps p.tables e below (T83.setTop (mkF m 256 #[.val (.int p1), .val (.int p2), .val (.int p3), .val (.int (2 : Int32)), .val (.int xv), .val (.int yv), .val (.int vv), .val (.int ea), .val (.int eb), .val (.int ec2), .val (.ref b15), .val (.ref br21), .val (.ref br73), .val (.ref br83)] [])) _
    refine XS.aload X83.here hx rfl (hb hby at_256) rfl rfl ?_
    show Steps p.tables e below (T83.setTop (mkF m 258 #[.val (.int p1), .val (.int p2), .val (.int p3), .val (.int (2 : Int32)), .val (.int xv), .val (.int yv), .val (.int vv), .val (.int ea), .val (.int eb), .val (.int ec2), .val (.ref b15), .val (.ref br21), .val (.ref br73), .val (.ref br83)] [(.ref br83)])) _
    refine XS.iconst X83.here hx rfl (hb hby at_258) ?_
    show Steps p.tables e below (T83.setTop (mkF m 259 #[.val (.int p1), .val (.int p2), .val (.int p3), .val (.int (2 : Int32)), .val (.int xv), .val (.int yv), .val (.int vv), .val (.int ea), .val (.int eb), .val (.int ec2), .val (.ref b15), .val (.ref br21), .val (.ref br73), .val (.ref br83)] [(.int (0 : Int32)), (.ref br83)])) _
    refine X83.baloadBytes hx (j := (0 : Int32)) (v := (.int ea)) (by rw [e83]; exact Ar86.1) (State.isArrayOf_alike hZ.alike Ar86.2.1) Ar86.2.2 hin86 hat86 (g := (mkF m 259 #[.val (.int p1), .val (.int p2), .val (.int p3), .val (.int (2 : Int32)), .val (.int xv), .val (.int yv), .val (.int vv), .val (.int ea), .val (.int eb), .val (.int ec2), .val (.ref b15), .val (.ref br21), .val (.ref br73), .val (.ref br83)] [(.int (0 : Int32)), (.ref br83)])) rfl rfl (hb hby at_259) _ ?_
    show Steps p.tables e below (T83.setTop (mkF m 260 #[.val (.int p1), .val (.int p2), .val (.int p3), .val (.int (2 : Int32)), .val (.int xv), .val (.int yv), .val (.int vv), .val (.int ea), .val (.int eb), .val (.int ec2), .val (.ref b15), .val (.ref br21), .val (.ref br73), .val (.ref br83)] [(.int ea)])) _
    refine XS.iload X83.here hx rfl (hb hby at_260) rfl ?_
    show Steps p.tables e below (T83.setTop (mkF m 262 #[.val (.int p1), .val (.int p2), .val (.int p3), .val (.int (2 : Int32)), .val (.int xv), .val (.int yv), .val (.int vv), .val (.int ea), .val (.int eb), .val (.int ec2), .val (.ref b15), .val (.ref br21), .val (.ref br73), .val (.ref br83)] [(.int ea), (.int ea)])) _
    refine XS.icmpYes X83.here hx rfl (pc0 := 262) (pc' := 267) rfl (hb hby at_262) rfl (XT.ii_eq_t rfl) (by decide) (by decide) ?_
    show Steps p.tables e below (T83.setTop (mkF m 267 #[.val (.int p1), .val (.int p2), .val (.int p3), .val (.int (2 : Int32)), .val (.int xv), .val (.int yv), .val (.int vv), .val (.int ea), .val (.int eb), .val (.int ec2), .val (.ref b15), .val (.ref br21), .val (.ref br73), .val (.ref br83)] [])) _
    refine XS.iconst X83.here hx rfl (hb hby at_267) ?_
    show Steps p.tables e below (T83.setTop (mkF m 268 #[.val (.int p1), .val (.int p2), .val (.int p3), .val (.int (2 : Int32)), .val (.int xv), .val (.int yv), .val (.int vv), .val (.int ea), .val (.int eb), .val (.int ec2), .val (.ref b15), .val (.ref br21), .val (.ref br73), .val (.ref br83)] [(.int (1 : Int32))])) _
    exact k)
  obtain ⟨fs, hr, hrun, hended, hW, hsame⟩ := X83.leave (v := some (.int (1 : Int32))) (fun h => by rw [Bd.returns] at h; cases h)
  refine ⟨_, _, pre87 _ ?_, hrun, hended, _, _, rfl, ?_, ⟨_, rfl⟩, hW, hsame.mono (by decide) (by decide)⟩
  · exact retN X83 hx (t := .boolean) Bd.returns (by simp) (hb hby at_268) hr
  · show Q_0 Z p1 p2 p3 h0 n0 _ T83.heap _
    skip
    exact ⟨rfl, N83⟩
set_option maxRecDepth 65536 in
set_option maxHeartbeats 40000000 in
theorem rs_0_7 (l : Launch) (Z : State) (a0 : Array Value) (hw : ∀ d ∈ tables_1, d.before a0 Z = true) (ws : List Jvm.Cond) (p1 p2 p3 : Int32) (h0 : Heap) (n0 : Nat) (xv : Int32) (yv : Int32) (vv : Int32) (ea : Int32) (eb : Int32) (ec2 : Int32) (b15 : Addr) (bb : Addr) (kb : ClassId) (br21 : Addr) (br61 : Addr) {p e s m below meth c s₁} (Bd : BodyLoose p l x (head1 (Jvm.Cond.code x code maxLocals ret :: ws) room_1) code maxLocals ret e s m #[(.int p1), (.int p2), (.int p3)] below meth c s₁) (hZ : Z.Warmed39 s.vm) (hml : c.maxLocals = 14) {Tc Lc0} (hhc : Heap) (Xc : Stand p l e room_1 s m #[(.int p1), (.int p2), (.int p3)] below meth c Tc Lc0 4 520) (ec : Tc.heap = hhc) (Nc : Fr n0 Lc0) (Zc : n0 ≤ hhc.size) (prec : ∀ t, Steps p.tables e below (Tc.setTop (mkF m 139 #[.val (.int p1), .val (.int p2), .val (.int p3), .val (.int (2 : Int32)), .val (.int xv), .val (.int yv), .val (.int vv), .val (.int ea), .val (.int eb), .val (.int ec2), .val (.ref b15), .val (.ref br21), .val (.ref br61), .unset] [])) t → Steps p.tables e below (s₁.setTop (entryFrame m #[(.int p1), (.int p2), (.int p3)] maxLocals)) t) (fc7_0 : Exa Z hhc b15 "com/example/spanfacet/spanfacet/MsgpackWriter") (fc7_1 : Fld Z hhc b15 "com/example/spanfacet/spanfacet/MsgpackWriter" "buffer" "[B" (.ref bb)) (fc7_2 : Fld Z hhc b15 "com/example/spanfacet/spanfacet/MsgpackWriter" "size" "I" (.int (1 : Int32))) (fc7_3 : Arv Z hhc bb kb .byte (512 : Int32) [(.int ea)] (.int (0 : Int32))) (ne_b15_bb : b15 ≠ bb) (ne_b15_br21 : b15 ≠ br21) (ne_bb_br21 : bb ≠ br21) (ne_b15_br61 : b15 ≠ br61) (ne_bb_br61 : bb ≠ br61) (g_b15 : n0 ≤ b15) (g_bb : n0 ≤ bb) (g_br21 : n0 ≤ br21) (g_br61 : n0 ≤ br61) (b_vv : ¬ vv.toInt64 < (0 : Int64) ∧ ¬ (127 : Int64) < vv.toInt64) (h_ea : (xv = 0 → ea = (-62 : Int32)) ∧ (¬ xv = 0 → ea = (-61 : Int32))) (h_eb : vv.toInt8.toInt32 = eb) (h_ec2 : (yv = 0 → ec2 = (-62 : Int32)) ∧ (¬ yv = 0 → ec2 = (-61 : Int32))) :
    ∃ s₂ o, Steps p.tables e below (s₁.setTop (entryFrame m #[(.int p1), (.int p2), (.int p3)] maxLocals)) s₂ ∧ s₂.status = .running ∧ Ended s₂ below o ∧ ∃ v L, o = .returned v ∧ Q_0 Z p1 p2 p3 h0 n0 v s₂.heap L ∧ FrameEnd s o s₂ L room_1.cells room_1.slots := by
  have hx := Bd.exec
  have hby := Bd.bytes
  have hown : s.vm.findClass "com/example/spanfacet/spanfacet/MsgpackWriterToByteArrayPinLaw" = some m.cls := findClass_of_methodNamed Bd.named
  have hnm := (name_of_methodNamed Bd.named Bd.method).1
  have pre69 : ∀ t, Steps p.tables e below (Tc.setTop (mkF m 149 #[.val (.int p1), .val (.int p2), .val (.int p3), .val (.int (2 : Int32)), .val (.int xv), .val (.int yv), .val (.int vv), .val (.int ea), .val (.int eb), .val (.int ec2), .val (.ref b15), .val (.ref br21), .val (.ref br61), .unset] [(.long (vv.toInt64)), (.ref b15)])) t → Steps p.tables e below (s₁.setTop (entryFrame m #[(.int p1), (.int p2), (.int p3)] maxLocals)) t := fun t k => prec t (by
    show Steps p.tables e below (Tc.setTop (mkF m 139 #[.val (.int p1), .val (.int p2), .val (.int p3), .val (.int (2 : Int32)), .val (.int xv), .val (.int yv), .val (.int vv), .val (.int ea), .val (.int eb), .val (.int ec2), .val (.ref b15), .val (.ref br21), .val (.ref br61), .unset] [])) _
    refine XS.iloadN Xc.here hx rfl (hb hby at_139) rfl ?_
    show Steps p.tables e below (Tc.setTop (mkF m 140 #[.val (.int p1), .val (.int p2), .val (.int p3), .val (.int (2 : Int32)), .val (.int xv), .val (.int yv), .val (.int vv), .val (.int ea), .val (.int eb), .val (.int ec2), .val (.ref b15), .val (.ref br21), .val (.ref br61), .unset] [(.int (2 : Int32))])) _
    refine XS.iconst Xc.here hx rfl (hb hby at_140) ?_
    show Steps p.tables e below (Tc.setTop (mkF m 141 #[.val (.int p1), .val (.int p2), .val (.int p3), .val (.int (2 : Int32)), .val (.int xv), .val (.int yv), .val (.int vv), .val (.int ea), .val (.int eb), .val (.int ec2), .val (.ref b15), .val (.ref br21), .val (.ref br61), .unset] [(.int (2 : Int32)), (.int (2 : Int32))])) _
    refine XS.icmpNo Xc.here hx rfl (hb hby at_141) rfl (XT.ii_lt_f (by decide)) ?_
    show Steps p.tables e below (Tc.setTop (mkF m 144 #[.val (.int p1), .val (.int p2), .val (.int p3), .val (.int (2 : Int32)), .val (.int xv), .val (.int yv), .val (.int vv), .val (.int ea), .val (.int eb), .val (.int ec2), .val (.ref b15), .val (.ref br21), .val (.ref br61), .unset] [])) _
    refine XS.aload Xc.here hx rfl (hb hby at_144) rfl rfl ?_
    show Steps p.tables e below (Tc.setTop (mkF m 146 #[.val (.int p1), .val (.int p2), .val (.int p3), .val (.int (2 : Int32)), .val (.int xv), .val (.int yv), .val (.int vv), .val (.int ea), .val (.int eb), .val (.int ec2), .val (.ref b15), .val (.ref br21), .val (.ref br61), .unset] [(.ref b15)])) _
    refine XS.iload Xc.here hx rfl (hb hby at_146) rfl ?_
    show Steps p.tables e below (Tc.setTop (mkF m 148 #[.val (.int p1), .val (.int p2), .val (.int p3), .val (.int (2 : Int32)), .val (.int xv), .val (.int yv), .val (.int vv), .val (.int ea), .val (.int eb), .val (.int ec2), .val (.ref b15), .val (.ref br21), .val (.ref br61), .unset] [(.int vv), (.ref b15)])) _
    refine XT.i2l Xc.here hx rfl (hb hby at_148) rfl ?_
    show Steps p.tables e below (Tc.setTop (mkF m 149 #[.val (.int p1), .val (.int p2), .val (.int p3), .val (.int (2 : Int32)), .val (.int xv), .val (.int yv), .val (.int vv), .val (.int ea), .val (.int eb), .val (.int ec2), .val (.ref b15), .val (.ref br21), .val (.ref br61), .unset] [(.long (vv.toInt64)), (.ref b15)])) _
    exact k)
  obtain ⟨cq70, kq70, q70a, q70b, q70c⟩ := isOf hZ ec fc7_0
  obtain ⟨_, _, ⟨T70, L70, kk70, nn70⟩, -, X70, ⟨Lc70, hQ70, l70, y70, z70⟩, st70⟩ := Xc.virtualBack hx (y := (⟨"com/example/spanfacet/spanfacet/MsgpackWriter", "integer", "(J)V"⟩ : MethodName)) (z := (⟨"com/example/spanfacet/spanfacet/MsgpackWriter", "integer", "(J)V"⟩ : MethodName)) hown (mvT hZ (hw _ (List.mem_of_getElem? (i := 44) rfl))) (mvT hZ (hw _ (List.mem_of_getElem? (i := 45) rfl))) (notFace_of_selects (args := #[]) (mvT hZ (hw _ (List.mem_of_getElem? (i := 47) rfl)))) (mvT hZ (hw _ (List.mem_of_getElem? (i := 47) rfl))) (mvT hZ (hw _ (List.mem_of_getElem? (i := 46) rfl))) (by decide) (backOf (W := 0) (rm_int l Z a0 hw [] b15 bb vv.toInt64 eb (1 : Int32) (2 : Int32) kb [(.int ea)] hhc n0 Zc fc7_0 fc7_1 fc7_2 fc7_3 (show (1 : Int32) = Int32.ofNat 1 from by decide) (show 1 ≤ 2 from by decide) (by decide) g_b15 g_bb ne_b15_bb b_vv ((own_rt vv).trans h_eb)) hZ (hw _ (List.mem_of_getElem? (i := 48) rfl)) (hw _ (List.mem_of_getElem? (i := 2) rfl)) (by decide) (by decide)) q70a q70c (g := (mkF m 149 #[.val (.int p1), .val (.int p2), .val (.int p3), .val (.int (2 : Int32)), .val (.int xv), .val (.int yv), .val (.int vv), .val (.int ea), .val (.int eb), .val (.int ec2), .val (.ref b15), .val (.ref br21), .val (.ref br61), .unset] [(.long (vv.toInt64)), (.ref b15)])) rfl (by rw [hml]; rfl) (Steps.refl _) (argsL := [(.long (vv.toInt64))]) (rest := []) (lenOf pd__J_V rfl) rfl (by show 2 * 0 + _ ≤ _; exact Nat.le_of_eq rfl) (hb hby at_149) (fun _ _ => ⟨rfl, ec, (by decide : 4 + 0 ≤ _), (by decide : 520 + 0 ≤ _)⟩)
  dsimp only [Pt.U, Pt.locs, Pt.cells, Pt.slots] at X70 l70 y70 z70 st70 hQ70
  subst l70 y70 z70
  obtain ⟨rfl, N70q, Kc70, Fb70, Fz70, Va70⟩ := hQ70
  have N70 := Fr.app Nc N70q
  have f71_0 := fc7_0.keep Kc70
  have Z70 : n0 ≤ T70.heap.size := Nat.le_trans Zc Kc70.1
  have e70 : T70.heap = T70.heap := rfl
  have Vb70 : Arv Z T70.heap bb kb .byte (512 : Int32) [(.int ea), (.int eb)] (.int (0 : Int32)) := Va70
  have pre72 : ∀ t, Steps p.tables e below (T70.setTop (mkF m 166 #[.val (.int p1), .val (.int p2), .val (.int p3), .val (.int (2 : Int32)), .val (.int xv), .val (.int yv), .val (.int vv), .val (.int ea), .val (.int eb), .val (.int ec2), .val (.ref b15), .val (.ref br21), .val (.ref br61), .unset] [(.ref b15)])) t → Steps p.tables e below (s₁.setTop (entryFrame m #[(.int p1), (.int p2), (.int p3)] maxLocals)) t := fun t k => pre69 t (by
    show Steps p.tables e below (Tc.setTop (mkF m 149 #[.val (.int p1), .val (.int p2), .val (.int p3), .val (.int (2 : Int32)), .val (.int xv), .val (.int yv), .val (.int vv), .val (.int ea), .val (.int eb), .val (.int ec2), .val (.ref b15), .val (.ref br21), .val (.ref br61), .unset] [(.long (vv.toInt64)), (.ref b15)])) _
    refine st70.trans ?_
    show Steps p.tables e below (T70.setTop (mkF m 152 #[.val (.int p1), .val (.int p2), .val (.int p3), .val (.int (2 : Int32)), .val (.int xv), .val (.int yv), .val (.int vv), .val (.int ea), .val (.int eb), .val (.int ec2), .val (.ref b15), .val (.ref br21), .val (.ref br61), .unset] [])) _
    refine XS.iloadN X70.here hx rfl (hb hby at_152) rfl ?_
    show Steps p.tables e below (T70.setTop (mkF m 153 #[.val (.int p1), .val (.int p2), .val (.int p3), .val (.int (2 : Int32)), .val (.int xv), .val (.int yv), .val (.int vv), .val (.int ea), .val (.int eb), .val (.int ec2), .val (.ref b15), .val (.ref br21), .val (.ref br61), .unset] [(.int (2 : Int32))])) _
    refine XS.iconst X70.here hx rfl (hb hby at_153) ?_
    show Steps p.tables e below (T70.setTop (mkF m 154 #[.val (.int p1), .val (.int p2), .val (.int p3), .val (.int (2 : Int32)), .val (.int xv), .val (.int yv), .val (.int vv), .val (.int ea), .val (.int eb), .val (.int ec2), .val (.ref b15), .val (.ref br21), .val (.ref br61), .unset] [(.int (3 : Int32)), (.int (2 : Int32))])) _
    refine XS.icmpYes X70.here hx rfl (pc0 := 154) (pc' := 164) rfl (hb hby at_154) rfl (XT.ii_lt_t (by decide)) (by decide) (by decide) ?_
    show Steps p.tables e below (T70.setTop (mkF m 164 #[.val (.int p1), .val (.int p2), .val (.int p3), .val (.int (2 : Int32)), .val (.int xv), .val (.int yv), .val (.int vv), .val (.int ea), .val (.int eb), .val (.int ec2), .val (.ref b15), .val (.ref br21), .val (.ref br61), .unset] [])) _
    refine XS.aload X70.here hx rfl (hb hby at_164) rfl rfl ?_
    show Steps p.tables e below (T70.setTop (mkF m 166 #[.val (.int p1), .val (.int p2), .val (.int p3), .val (.int (2 : Int32)), .val (.int xv), .val (.int yv), .val (.int vv), .val (.int ea), .val (.int eb), .val (.int ec2), .val (.ref b15), .val (.ref br21), .val (.ref br61), .unset] [(.ref b15)])) _
    exact k)
  obtain ⟨cq73, kq73, q73a, q73b, q73c⟩ := isOf hZ e70 f71_0
  obtain ⟨_, _, ⟨T73, L73, kk73, nn73⟩, -, X73, ⟨Lc73, hQ73, l73, y73, z73⟩, st73⟩ := X70.virtualBack hx (y := (⟨"com/example/spanfacet/spanfacet/MsgpackWriter", "toByteArray", "()[B"⟩ : MethodName)) (z := (⟨"com/example/spanfacet/spanfacet/MsgpackWriter", "toByteArray", "()[B"⟩ : MethodName)) hown (mvT hZ (hw _ (List.mem_of_getElem? (i := 12) rfl))) (mvT hZ (hw _ (List.mem_of_getElem? (i := 13) rfl))) (notFace_of_selects (args := #[]) (mvT hZ (hw _ (List.mem_of_getElem? (i := 15) rfl)))) (mvT hZ (hw _ (List.mem_of_getElem? (i := 15) rfl))) (mvT hZ (hw _ (List.mem_of_getElem? (i := 14) rfl))) (by decide) (backOf (W := 0) (rm_tba l Z a0 hw [] b15 bb (2 : Int32) kb [(.int ea), (.int eb)] T70.heap n0 Z70 Fb70 Fz70 Vb70 (show (2 : Int32) = Int32.ofNat 2 from by decide) (show 2 ≤ 3 from by decide)) hZ (hw _ (List.mem_of_getElem? (i := 16) rfl)) (hw _ (List.mem_of_getElem? (i := 2) rfl)) (by decide) (by decide)) q73a q73c (g := (mkF m 166 #[.val (.int p1), .val (.int p2), .val (.int p3), .val (.int (2 : Int32)), .val (.int xv), .val (.int yv), .val (.int vv), .val (.int ea), .val (.int eb), .val (.int ec2), .val (.ref b15), .val (.ref br21), .val (.ref br61), .unset] [(.ref b15)])) rfl (by rw [hml]; rfl) (Steps.refl _) (argsL := []) (rest := []) (lenOf pd____B rfl) rfl (by show 2 * 0 + _ ≤ _; exact Nat.le_of_eq rfl) (hb hby at_166) (fun _ _ => ⟨rfl, e70, (by decide : 4 + 1 ≤ _), (by decide : 520 + 3 ≤ _)⟩)
  dsimp only [Pt.U, Pt.locs, Pt.cells, Pt.slots] at X73 l73 y73 z73 st73 hQ73
  subst l73 y73 z73
  obtain ⟨br73, kr73, rfl, N73q, Kc73, g_br73, sr73, Vr73⟩ := hQ73
  have N73 := Fr.app N70 N73q
  have f74_0 := f71_0.keep Kc73
  have f74_1 := Fb70.keep Kc73 (by simp)
  have f74_2 := Fz70.keep Kc73 (by simp)
  have f74_3 := Vb70.keep Kc73 (by simp)
  have Z73 : n0 ≤ T73.heap.size := Nat.le_trans Z70 Kc73.1
  have e73 : T73.heap = T73.heap := rfl
  have ne_b15_br73 : b15 ≠ br73 := Nat.ne_of_lt (Nat.lt_of_lt_of_le f71_0.lt sr73)
  have ne_bb_br73 : bb ≠ br73 := Nat.ne_of_lt (Nat.lt_of_lt_of_le Vb70.lt sr73)
  obtain ⟨cl75, Ar75, kc75, S75, M75, H75, G75⟩ := id Vr73
  have pre76 : ∀ t, Steps p.tables e below (T73.setTop (mkF m 180 #[.val (.int p1), .val (.int p2), .val (.int p3), .val (.int (2 : Int32)), .val (.int xv), .val (.int yv), .val (.int vv), .val (.int ea), .val (.int eb), .val (.int ec2), .val (.ref b15), .val (.ref br21), .val (.ref br73), .unset] [])) t → Steps p.tables e below (s₁.setTop (entryFrame m #[(.int p1), (.int p2), (.int p3)] maxLocals)) t := fun t k => pre72 t (by
    show Steps p.tables e below (T70.setTop (mkF m 166 #[.val (.int p1), .val (.int p2), .val (.int p3), .val (.int (2 : Int32)), .val (.int xv), .val (.int yv), .val (.int vv), .val (.int ea), .val (.int eb), .val (.int ec2), .val (.ref b15), .val (.ref br21), .val (.ref br61), .unset] [(.ref b15)])) _
    refine st73.trans ?_
    show Steps p.tables e below (T73.setTop (mkF m 169 #[.val (.int p1), .val (.int p2), .val (.int p3), .val (.int (2 : Int32)), .val (.int xv), .val (.int yv), .val (.int vv), .val (.int ea), .val (.int eb), .val (.int ec2), .val (.ref b15), .val (.ref br21), .val (.ref br61), .unset] [(.ref br73)])) _
    refine XS.astore X73.here hx rfl (hb hby at_169) rfl rfl (l' := #[.val (.int p1), .val (.int p2), .val (.int p3), .val (.int (2 : Int32)), .val (.int xv), .val (.int yv), .val (.int vv), .val (.int ea), .val (.int eb), .val (.int ec2), .val (.ref b15), .val (.ref br21), .val (.ref br73), .unset]) rfl ?_
    show Steps p.tables e below (T73.setTop (mkF m 171 #[.val (.int p1), .val (.int p2), .val (.int p3), .val (.int (2 : Int32)), .val (.int xv), .val (.int yv), .val (.int vv), .val (.int ea), .val (.int eb), .val (.int ec2), .val (.ref b15), .val (.ref br21), .val (.ref br73), .unset] [])) _
    refine XS.aload X73.here hx rfl (hb hby at_171) rfl rfl ?_
    show Steps p.tables e below (T73.setTop (mkF m 173 #[.val (.int p1), .val (.int p2), .val (.int p3), .val (.int (2 : Int32)), .val (.int xv), .val (.int yv), .val (.int vv), .val (.int ea), .val (.int eb), .val (.int ec2), .val (.ref b15), .val (.ref br21), .val (.ref br73), .unset] [(.ref br73)])) _
    refine X73.arraylength hx (cell := cl75) (by rw [e73]; exact Ar75.1) (State.isArrayOf_alike hZ.alike Ar75.2.1) (g := (mkF m 173 #[.val (.int p1), .val (.int p2), .val (.int p3), .val (.int (2 : Int32)), .val (.int xv), .val (.int yv), .val (.int vv), .val (.int ea), .val (.int eb), .val (.int ec2), .val (.ref b15), .val (.ref br21), .val (.ref br73), .unset] [(.ref br73)])) rfl (rest := []) rfl (hb hby at_173) _ ?_
    rw [len_of S75 M75]
    show Steps p.tables e below (T73.setTop (mkF m 174 #[.val (.int p1), .val (.int p2), .val (.int p3), .val (.int (2 : Int32)), .val (.int xv), .val (.int yv), .val (.int vv), .val (.int ea), .val (.int eb), .val (.int ec2), .val (.ref b15), .val (.ref br21), .val (.ref br73), .unset] [(.int (2 : Int32))])) _
    refine XS.iloadN X73.here hx rfl (hb hby at_174) rfl ?_
    show Steps p.tables e below (T73.setTop (mkF m 175 #[.val (.int p1), .val (.int p2), .val (.int p3), .val (.int (2 : Int32)), .val (.int xv), .val (.int yv), .val (.int vv), .val (.int ea), .val (.int eb), .val (.int ec2), .val (.ref b15), .val (.ref br21), .val (.ref br73), .unset] [(.int (2 : Int32)), (.int (2 : Int32))])) _
    refine XS.icmpYes X73.here hx rfl (pc0 := 175) (pc' := 180) rfl (hb hby at_175) rfl (XT.ii_eq_t rfl) (by decide) (by decide) ?_
    show Steps p.tables e below (T73.setTop (mkF m 180 #[.val (.int p1), .val (.int p2), .val (.int p3), .val (.int (2 : Int32)), .val (.int xv), .val (.int yv), .val (.int vv), .val (.int ea), .val (.int eb), .val (.int ec2), .val (.ref b15), .val (.ref br21), .val (.ref br73), .unset] [])) _
    exact k)
  exact rs_0_8 l Z a0 hw ws p1 p2 p3 h0 n0 xv yv vv ea eb ec2 b15 bb kb br73 kr73 br21 br61 Bd hZ hml T73.heap X73 e73 N73 Z73 pre76 f74_0 f74_1 f74_2 f74_3 Vr73 ne_b15_bb ne_b15_br21 ne_bb_br21 ne_b15_br61 ne_bb_br61 ne_b15_br73 ne_bb_br73 g_b15 g_bb g_br21 g_br61 g_br73 b_vv h_ea h_eb h_ec2
set_option maxRecDepth 65536 in
set_option maxHeartbeats 40000000 in
theorem rs_0_6 (l : Launch) (Z : State) (a0 : Array Value) (hw : ∀ d ∈ tables_1, d.before a0 Z = true) (ws : List Jvm.Cond) (p1 p2 p3 : Int32) (h0 : Heap) (n0 : Nat) (xv : Int32) (yv : Int32) (vv : Int32) (ea : Int32) (eb : Int32) (ec2 : Int32) (b15 : Addr) (bb : Addr) (kb : ClassId) (br21 : Addr) {p e s m below meth c s₁} (Bd : BodyLoose p l x (head1 (Jvm.Cond.code x code maxLocals ret :: ws) room_1) code maxLocals ret e s m #[(.int p1), (.int p2), (.int p3)] below meth c s₁) (hZ : Z.Warmed39 s.vm) (hml : c.maxLocals = 14) {Tc Lc0} (hhc : Heap) (Xc : Stand p l e room_1 s m #[(.int p1), (.int p2), (.int p3)] below meth c Tc Lc0 3 517) (ec : Tc.heap = hhc) (Nc : Fr n0 Lc0) (Zc : n0 ≤ hhc.size) (prec : ∀ t, Steps p.tables e below (Tc.setTop (mkF m 93 #[.val (.int p1), .val (.int p2), .val (.int p3), .val (.int (2 : Int32)), .val (.int xv), .val (.int yv), .val (.int vv), .val (.int ea), .val (.int eb), .val (.int ec2), .val (.ref b15), .val (.ref br21), .unset, .unset] [])) t → Steps p.tables e below (s₁.setTop (entryFrame m #[(.int p1), (.int p2), (.int p3)] maxLocals)) t) (fc6_0 : Exa Z hhc b15 "com/example/spanfacet/spanfacet/MsgpackWriter") (fc6_1 : Fld Z hhc b15 "com/example/spanfacet/spanfacet/MsgpackWriter" "buffer" "[B" (.ref bb)) (fc6_2 : Fld Z hhc b15 "com/example/spanfacet/spanfacet/MsgpackWriter" "size" "I" (.int (0 : Int32))) (fc6_3 : Arv Z hhc bb kb .byte (512 : Int32) [] (.int (0 : Int32))) (ne_b15_bb : b15 ≠ bb) (ne_b15_br21 : b15 ≠ br21) (ne_bb_br21 : bb ≠ br21) (g_b15 : n0 ≤ b15) (g_bb : n0 ≤ bb) (g_br21 : n0 ≤ br21) (b_vv : ¬ vv.toInt64 < (0 : Int64) ∧ ¬ (127 : Int64) < vv.toInt64) (h_ea : (xv = 0 → ea = (-62 : Int32)) ∧ (¬ xv = 0 → ea = (-61 : Int32))) (h_eb : vv.toInt8.toInt32 = eb) (h_ec2 : (yv = 0 → ec2 = (-62 : Int32)) ∧ (¬ yv = 0 → ec2 = (-61 : Int32))) :
    ∃ s₂ o, Steps p.tables e below (s₁.setTop (entryFrame m #[(.int p1), (.int p2), (.int p3)] maxLocals)) s₂ ∧ s₂.status = .running ∧ Ended s₂ below o ∧ ∃ v L, o = .returned v ∧ Q_0 Z p1 p2 p3 h0 n0 v s₂.heap L ∧ FrameEnd s o s₂ L room_1.cells room_1.slots := by
  have hx := Bd.exec
  have hby := Bd.bytes
  have hown : s.vm.findClass "com/example/spanfacet/spanfacet/MsgpackWriterToByteArrayPinLaw" = some m.cls := findClass_of_methodNamed Bd.named
  have hnm := (name_of_methodNamed Bd.named Bd.method).1
  have pre57 : ∀ t, Steps p.tables e below (Tc.setTop (mkF m 102 #[.val (.int p1), .val (.int p2), .val (.int p3), .val (.int (2 : Int32)), .val (.int xv), .val (.int yv), .val (.int vv), .val (.int ea), .val (.int eb), .val (.int ec2), .val (.ref b15), .val (.ref br21), .unset, .unset] [(.int xv), (.ref b15)])) t → Steps p.tables e below (s₁.setTop (entryFrame m #[(.int p1), (.int p2), (.int p3)] maxLocals)) t := fun t k => prec t (by
    show Steps p.tables e below (Tc.setTop (mkF m 93 #[.val (.int p1), .val (.int p2), .val (.int p3), .val (.int (2 : Int32)), .val (.int xv), .val (.int yv), .val (.int vv), .val (.int ea), .val (.int eb), .val (.int ec2), .val (.ref b15), .val (.ref br21), .unset, .unset] [])) _
    refine XS.iloadN Xc.here hx rfl (hb hby at_93) rfl ?_
    show Steps p.tables e below (Tc.setTop (mkF m 94 #[.val (.int p1), .val (.int p2), .val (.int p3), .val (.int (2 : Int32)), .val (.int xv), .val (.int yv), .val (.int vv), .val (.int ea), .val (.int eb), .val (.int ec2), .val (.ref b15), .val (.ref br21), .unset, .unset] [(.int (2 : Int32))])) _
    refine XS.iconst Xc.here hx rfl (hb hby at_94) ?_
    show Steps p.tables e below (Tc.setTop (mkF m 95 #[.val (.int p1), .val (.int p2), .val (.int p3), .val (.int (2 : Int32)), .val (.int xv), .val (.int yv), .val (.int vv), .val (.int ea), .val (.int eb), .val (.int ec2), .val (.ref b15), .val (.ref br21), .unset, .unset] [(.int (1 : Int32)), (.int (2 : Int32))])) _
    refine XS.icmpNo Xc.here hx rfl (hb hby at_95) rfl (XT.ii_lt_f (by decide)) ?_
    show Steps p.tables e below (Tc.setTop (mkF m 98 #[.val (.int p1), .val (.int p2), .val (.int p3), .val (.int (2 : Int32)), .val (.int xv), .val (.int yv), .val (.int vv), .val (.int ea), .val (.int eb), .val (.int ec2), .val (.ref b15), .val (.ref br21), .unset, .unset] [])) _
    refine XS.aload Xc.here hx rfl (hb hby at_98) rfl rfl ?_
    show Steps p.tables e below (Tc.setTop (mkF m 100 #[.val (.int p1), .val (.int p2), .val (.int p3), .val (.int (2 : Int32)), .val (.int xv), .val (.int yv), .val (.int vv), .val (.int ea), .val (.int eb), .val (.int ec2), .val (.ref b15), .val (.ref br21), .unset, .unset] [(.ref b15)])) _
    refine XS.iload Xc.here hx rfl (hb hby at_100) rfl ?_
    show Steps p.tables e below (Tc.setTop (mkF m 102 #[.val (.int p1), .val (.int p2), .val (.int p3), .val (.int (2 : Int32)), .val (.int xv), .val (.int yv), .val (.int vv), .val (.int ea), .val (.int eb), .val (.int ec2), .val (.ref b15), .val (.ref br21), .unset, .unset] [(.int xv), (.ref b15)])) _
    exact k)
  obtain ⟨cq58, kq58, q58a, q58b, q58c⟩ := isOf hZ ec fc6_0
  obtain ⟨_, _, ⟨T58, L58, kk58, nn58⟩, -, X58, ⟨Lc58, hQ58, l58, y58, z58⟩, st58⟩ := Xc.virtualBack hx (y := (⟨"com/example/spanfacet/spanfacet/MsgpackWriter", "bool", "(Z)V"⟩ : MethodName)) (z := (⟨"com/example/spanfacet/spanfacet/MsgpackWriter", "bool", "(Z)V"⟩ : MethodName)) hown (mvT hZ (hw _ (List.mem_of_getElem? (i := 31) rfl))) (mvT hZ (hw _ (List.mem_of_getElem? (i := 32) rfl))) (notFace_of_selects (args := #[]) (mvT hZ (hw _ (List.mem_of_getElem? (i := 34) rfl)))) (mvT hZ (hw _ (List.mem_of_getElem? (i := 34) rfl))) (mvT hZ (hw _ (List.mem_of_getElem? (i := 33) rfl))) (by decide) (backOf (W := 0) (rm_bl l Z a0 hw [] b15 bb xv ea (0 : Int32) (1 : Int32) kb [] hhc n0 Zc fc6_0 fc6_1 fc6_2 fc6_3 (show (0 : Int32) = Int32.ofNat 0 from by decide) (show 0 ≤ 2 from by decide) (by decide) g_b15 g_bb ne_b15_bb h_ea) hZ (hw _ (List.mem_of_getElem? (i := 35) rfl)) (hw _ (List.mem_of_getElem? (i := 2) rfl)) (by decide) (by decide)) q58a q58c (g := (mkF m 102 #[.val (.int p1), .val (.int p2), .val (.int p3), .val (.int (2 : Int32)), .val (.int xv), .val (.int yv), .val (.int vv), .val (.int ea), .val (.int eb), .val (.int ec2), .val (.ref b15), .val (.ref br21), .unset, .unset] [(.int xv), (.ref b15)])) rfl (by rw [hml]; rfl) (Steps.refl _) (argsL := [(.int xv)]) (rest := []) (lenOf pd__Z_V rfl) rfl (by show 2 * 0 + _ ≤ _; exact Nat.le_of_eq rfl) (hb hby at_102) (fun _ _ => ⟨rfl, ec, (by decide : 3 + 0 ≤ _), (by decide : 517 + 0 ≤ _)⟩)
  dsimp only [Pt.U, Pt.locs, Pt.cells, Pt.slots] at X58 l58 y58 z58 st58 hQ58
  subst l58 y58 z58
  obtain ⟨rfl, N58q, Kc58, Fb58, Fz58, Va58⟩ := hQ58
  have N58 := Fr.app Nc N58q
  have f59_0 := fc6_0.keep Kc58
  have Z58 : n0 ≤ T58.heap.size := Nat.le_trans Zc Kc58.1
  have e58 : T58.heap = T58.heap := rfl
  have Vb58 : Arv Z T58.heap bb kb .byte (512 : Int32) [(.int ea)] (.int (0 : Int32)) := Va58
  have pre60 : ∀ t, Steps p.tables e below (T58.setTop (mkF m 107 #[.val (.int p1), .val (.int p2), .val (.int p3), .val (.int (2 : Int32)), .val (.int xv), .val (.int yv), .val (.int vv), .val (.int ea), .val (.int eb), .val (.int ec2), .val (.ref b15), .val (.ref br21), .unset, .unset] [(.ref b15)])) t → Steps p.tables e below (s₁.setTop (entryFrame m #[(.int p1), (.int p2), (.int p3)] maxLocals)) t := fun t k => pre57 t (by
    show Steps p.tables e below (Tc.setTop (mkF m 102 #[.val (.int p1), .val (.int p2), .val (.int p3), .val (.int (2 : Int32)), .val (.int xv), .val (.int yv), .val (.int vv), .val (.int ea), .val (.int eb), .val (.int ec2), .val (.ref b15), .val (.ref br21), .unset, .unset] [(.int xv), (.ref b15)])) _
    refine st58.trans ?_
    show Steps p.tables e below (T58.setTop (mkF m 105 #[.val (.int p1), .val (.int p2), .val (.int p3), .val (.int (2 : Int32)), .val (.int xv), .val (.int yv), .val (.int vv), .val (.int ea), .val (.int eb), .val (.int ec2), .val (.ref b15), .val (.ref br21), .unset, .unset] [])) _
    refine XS.aload X58.here hx rfl (hb hby at_105) rfl rfl ?_
    show Steps p.tables e below (T58.setTop (mkF m 107 #[.val (.int p1), .val (.int p2), .val (.int p3), .val (.int (2 : Int32)), .val (.int xv), .val (.int yv), .val (.int vv), .val (.int ea), .val (.int eb), .val (.int ec2), .val (.ref b15), .val (.ref br21), .unset, .unset] [(.ref b15)])) _
    exact k)
  obtain ⟨cq61, kq61, q61a, q61b, q61c⟩ := isOf hZ e58 f59_0
  obtain ⟨_, _, ⟨T61, L61, kk61, nn61⟩, -, X61, ⟨Lc61, hQ61, l61, y61, z61⟩, st61⟩ := X58.virtualBack hx (y := (⟨"com/example/spanfacet/spanfacet/MsgpackWriter", "toByteArray", "()[B"⟩ : MethodName)) (z := (⟨"com/example/spanfacet/spanfacet/MsgpackWriter", "toByteArray", "()[B"⟩ : MethodName)) hown (mvT hZ (hw _ (List.mem_of_getElem? (i := 12) rfl))) (mvT hZ (hw _ (List.mem_of_getElem? (i := 13) rfl))) (notFace_of_selects (args := #[]) (mvT hZ (hw _ (List.mem_of_getElem? (i := 15) rfl)))) (mvT hZ (hw _ (List.mem_of_getElem? (i := 15) rfl))) (mvT hZ (hw _ (List.mem_of_getElem? (i := 14) rfl))) (by decide) (backOf (W := 0) (rm_tba l Z a0 hw [] b15 bb (1 : Int32) kb [(.int ea)] T58.heap n0 Z58 Fb58 Fz58 Vb58 (show (1 : Int32) = Int32.ofNat 1 from by decide) (show 1 ≤ 3 from by decide)) hZ (hw _ (List.mem_of_getElem? (i := 16) rfl)) (hw _ (List.mem_of_getElem? (i := 2) rfl)) (by decide) (by decide)) q61a q61c (g := (mkF m 107 #[.val (.int p1), .val (.int p2), .val (.int p3), .val (.int (2 : Int32)), .val (.int xv), .val (.int yv), .val (.int vv), .val (.int ea), .val (.int eb), .val (.int ec2), .val (.ref b15), .val (.ref br21), .unset, .unset] [(.ref b15)])) rfl (by rw [hml]; rfl) (Steps.refl _) (argsL := []) (rest := []) (lenOf pd____B rfl) rfl (by show 2 * 0 + _ ≤ _; exact Nat.le_of_eq rfl) (hb hby at_107) (fun _ _ => ⟨rfl, e58, (by decide : 3 + 1 ≤ _), (by decide : 517 + 3 ≤ _)⟩)
  dsimp only [Pt.U, Pt.locs, Pt.cells, Pt.slots] at X61 l61 y61 z61 st61 hQ61
  subst l61 y61 z61
  obtain ⟨br61, kr61, rfl, N61q, Kc61, g_br61, sr61, Vr61⟩ := hQ61
  have N61 := Fr.app N58 N61q
  have f62_0 := f59_0.keep Kc61
  have f62_1 := Fb58.keep Kc61 (by simp)
  have f62_2 := Fz58.keep Kc61 (by simp)
  have f62_3 := Vb58.keep Kc61 (by simp)
  have Z61 : n0 ≤ T61.heap.size := Nat.le_trans Z58 Kc61.1
  have e61 : T61.heap = T61.heap := rfl
  have ne_b15_br61 : b15 ≠ br61 := Nat.ne_of_lt (Nat.lt_of_lt_of_le f59_0.lt sr61)
  have ne_bb_br61 : bb ≠ br61 := Nat.ne_of_lt (Nat.lt_of_lt_of_le Vb58.lt sr61)
  obtain ⟨cl63, Ar63, kc63, S63, M63, H63, G63⟩ := id Vr61
  obtain ⟨cl64, Ar64, kc64, S64, M64, H64, G64⟩ := id Vr61
  have hin64 := inb_of S64 (j := (0 : Int32)) (by decide)
  have hat64 : cl64.slots[((0 : Int32)).toNatClampNeg]? = some (.int ea) := H64.at hin64 rfl
  have pre65 : ∀ t, Steps p.tables e below (T61.setTop (mkF m 138 #[.val (.int p1), .val (.int p2), .val (.int p3), .val (.int (2 : Int32)), .val (.int xv), .val (.int yv), .val (.int vv), .val (.int ea), .val (.int eb), .val (.int ec2), .val (.ref b15), .val (.ref br21), .val (.ref br61), .unset] [(.int ((ea ^^^ (1 : Int32)).toInt8.toInt32)), (.int (0 : Int32)), (.ref br61)])) t → Steps p.tables e below (s₁.setTop (entryFrame m #[(.int p1), (.int p2), (.int p3)] maxLocals)) t := fun t k => pre60 t (by
    show Steps p.tables e below (T58.setTop (mkF m 107 #[.val (.int p1), .val (.int p2), .val (.int p3), .val (.int (2 : Int32)), .val (.int xv), .val (.int yv), .val (.int vv), .val (.int ea), .val (.int eb), .val (.int ec2), .val (.ref b15), .val (.ref br21), .unset, .unset] [(.ref b15)])) _
    refine st61.trans ?_
    show Steps p.tables e below (T61.setTop (mkF m 110 #[.val (.int p1), .val (.int p2), .val (.int p3), .val (.int (2 : Int32)), .val (.int xv), .val (.int yv), .val (.int vv), .val (.int ea), .val (.int eb), .val (.int ec2), .val (.ref b15), .val (.ref br21), .unset, .unset] [(.ref br61)])) _
    refine XS.astore X61.here hx rfl (hb hby at_110) rfl rfl (l' := #[.val (.int p1), .val (.int p2), .val (.int p3), .val (.int (2 : Int32)), .val (.int xv), .val (.int yv), .val (.int vv), .val (.int ea), .val (.int eb), .val (.int ec2), .val (.ref b15), .val (.ref br21), .val (.ref br61), .unset]) rfl ?_
    show Steps p.tables e below (T61.setTop (mkF m 112 #[.val (.int p1), .val (.int p2), .val (.int p3), .val (.int (2 : Int32)), .val (.int xv), .val (.int yv), .val (.int vv), .val (.int ea), .val (.int eb), .val (.int ec2), .val (.ref b15), .val (.ref br21), .val (.ref br61), .unset] [])) _
    refine XS.aload X61.here hx rfl (hb hby at_112) rfl rfl ?_
    show Steps p.tables e below (T61.setTop (mkF m 114 #[.val (.int p1), .val (.int p2), .val (.int p3), .val (.int (2 : Int32)), .val (.int xv), .val (.int yv), .val (.int vv), .val (.int ea), .val (.int eb), .val (.int ec2), .val (.ref b15), .val (.ref br21), .val (.ref br61), .unset] [(.ref br61)])) _
    refine X61.arraylength hx (cell := cl63) (by rw [e61]; exact Ar63.1) (State.isArrayOf_alike hZ.alike Ar63.2.1) (g := (mkF m 114 #[.val (.int p1), .val (.int p2), .val (.int p3), .val (.int (2 : Int32)), .val (.int xv), .val (.int yv), .val (.int vv), .val (.int ea), .val (.int eb), .val (.int ec2), .val (.ref b15), .val (.ref br21), .val (.ref br61), .unset] [(.ref br61)])) rfl (rest := []) rfl (hb hby at_114) _ ?_
    rw [len_of S63 M63]
    show Steps p.tables e below (T61.setTop (mkF m 115 #[.val (.int p1), .val (.int p2), .val (.int p3), .val (.int (2 : Int32)), .val (.int xv), .val (.int yv), .val (.int vv), .val (.int ea), .val (.int eb), .val (.int ec2), .val (.ref b15), .val (.ref br21), .val (.ref br61), .unset] [(.int (1 : Int32))])) _
    refine XS.iconst X61.here hx rfl (hb hby at_115) ?_
    show Steps p.tables e below (T61.setTop (mkF m 116 #[.val (.int p1), .val (.int p2), .val (.int p3), .val (.int (2 : Int32)), .val (.int xv), .val (.int yv), .val (.int vv), .val (.int ea), .val (.int eb), .val (.int ec2), .val (.ref b15), .val (.ref br21), .val (.ref br61), .unset] [(.int (1 : Int32)), (.int (1 : Int32))])) _
    refine XS.icmpNo X61.here hx rfl (hb hby at_116) rfl (XT.ii_ne_f rfl) ?_
    show Steps p.tables e below (T61.setTop (mkF m 119 #[.val (.int p1), .val (.int p2), .val (.int p3), .val (.int (2 : Int32)), .val (.int xv), .val (.int yv), .val (.int vv), .val (.int ea), .val (.int eb), .val (.int ec2), .val (.ref b15), .val (.ref br21), .val (.ref br61), .unset] [])) _
    refine XS.aload X61.here hx rfl (hb hby at_119) rfl rfl ?_
    show Steps p.tables e below (T61.setTop (mkF m 121 #[.val (.int p1), .val (.int p2), .val (.int p3), .val (.int (2 : Int32)), .val (.int xv), .val (.int yv), .val (.int vv), .val (.int ea), .val (.int eb), .val (.int ec2), .val (.ref b15), .val (.ref br21), .val (.ref br61), .unset] [(.ref br61)])) _
    refine XS.iconst X61.here hx rfl (hb hby at_121) ?_
    show Steps p.tables e below (T61.setTop (mkF m 122 #[.val (.int p1), .val (.int p2), .val (.int p3), .val (.int (2 : Int32)), .val (.int xv), .val (.int yv), .val (.int vv), .val (.int ea), .val (.int eb), .val (.int ec2), .val (.ref b15), .val (.ref br21), .val (.ref br61), .unset] [(.int (0 : Int32)), (.ref br61)])) _
    refine X61.baloadBytes hx (j := (0 : Int32)) (v := (.int ea)) (by rw [e61]; exact Ar64.1) (State.isArrayOf_alike hZ.alike Ar64.2.1) Ar64.2.2 hin64 hat64 (g := (mkF m 122 #[.val (.int p1), .val (.int p2), .val (.int p3), .val (.int (2 : Int32)), .val (.int xv), .val (.int yv), .val (.int vv), .val (.int ea), .val (.int eb), .val (.int ec2), .val (.ref b15), .val (.ref br21), .val (.ref br61), .unset] [(.int (0 : Int32)), (.ref br61)])) rfl rfl (hb hby at_122) _ ?_
    show Steps p.tables e below (T61.setTop (mkF m 123 #[.val (.int p1), .val (.int p2), .val (.int p3), .val (.int (2 : Int32)), .val (.int xv), .val (.int yv), .val (.int vv), .val (.int ea), .val (.int eb), .val (.int ec2), .val (.ref b15), .val (.ref br21), .val (.ref br61), .unset] [(.int ea)])) _
    refine XS.iload X61.here hx rfl (hb hby at_123) rfl ?_
    show Steps p.tables e below (T61.setTop (mkF m 125 #[.val (.int p1), .val (.int p2), .val (.int p3), .val (.int (2 : Int32)), .val (.int xv), .val (.int yv), .val (.int vv), .val (.int ea), .val (.int eb), .val (.int ec2), .val (.ref b15), .val (.ref br21), .val (.ref br61), .unset] [(.int ea), (.int ea)])) _
    refine XS.icmpYes X61.here hx rfl (pc0 := 125) (pc' := 130) rfl (hb hby at_125) rfl (XT.ii_eq_t rfl) (by decide) (by decide) ?_
    show Steps p.tables e below (T61.setTop (mkF m 130 #[.val (.int p1), .val (.int p2), .val (.int p3), .val (.int (2 : Int32)), .val (.int xv), .val (.int yv), .val (.int vv), .val (.int ea), .val (.int eb), .val (.int ec2), .val (.ref b15), .val (.ref br21), .val (.ref br61), .unset] [])) _
    refine XS.aload X61.here hx rfl (hb hby at_130) rfl rfl ?_
    show Steps p.tables e below (T61.setTop (mkF m 132 #[.val (.int p1), .val (.int p2), .val (.int p3), .val (.int (2 : Int32)), .val (.int xv), .val (.int yv), .val (.int vv), .val (.int ea), .val (.int eb), .val (.int ec2), .val (.ref b15), .val (.ref br21), .val (.ref br61), .unset] [(.ref br61)])) _
    refine XS.iconst X61.here hx rfl (hb hby at_132) ?_
    show Steps p.tables e below (T61.setTop (mkF m 133 #[.val (.int p1), .val (.int p2), .val (.int p3), .val (.int (2 : Int32)), .val (.int xv), .val (.int yv), .val (.int vv), .val (.int ea), .val (.int eb), .val (.int ec2), .val (.ref b15), .val (.ref br21), .val (.ref br61), .unset] [(.int (0 : Int32)), (.ref br61)])) _
    refine XS.iload X61.here hx rfl (hb hby at_133) rfl ?_
    show Steps p.tables e below (T61.setTop (mkF m 135 #[.val (.int p1), .val (.int p2), .val (.int p3), .val (.int (2 : Int32)), .val (.int xv), .val (.int yv), .val (.int vv), .val (.int ea), .val (.int eb), .val (.int ec2), .val (.ref b15), .val (.ref br21), .val (.ref br61), .unset] [(.int ea), (.int (0 : Int32)), (.ref br61)])) _
    refine XS.iconst X61.here hx rfl (hb hby at_135) ?_
    show Steps p.tables e below (T61.setTop (mkF m 136 #[.val (.int p1), .val (.int p2), .val (.int p3), .val (.int (2 : Int32)), .val (.int xv), .val (.int yv), .val (.int vv), .val (.int ea), .val (.int eb), .val (.int ec2), .val (.ref b15), .val (.ref br21), .val (.ref br61), .unset] [(.int (1 : Int32)), (.int ea), (.int (0 : Int32)), (.ref br61)])) _
    refine XT.ixor X61.here hx rfl (hb hby at_136) rfl ?_
    show Steps p.tables e below (T61.setTop (mkF m 137 #[.val (.int p1), .val (.int p2), .val (.int p3), .val (.int (2 : Int32)), .val (.int xv), .val (.int yv), .val (.int vv), .val (.int ea), .val (.int eb), .val (.int ec2), .val (.ref b15), .val (.ref br21), .val (.ref br61), .unset] [(.int (ea ^^^ (1 : Int32))), (.int (0 : Int32)), (.ref br61)])) _
    refine XT.i2b X61.here hx rfl (hb hby at_137) rfl ?_
    show Steps p.tables e below (T61.setTop (mkF m 138 #[.val (.int p1), .val (.int p2), .val (.int p3), .val (.int (2 : Int32)), .val (.int xv), .val (.int yv), .val (.int vv), .val (.int ea), .val (.int eb), .val (.int ec2), .val (.ref b15), .val (.ref br21), .val (.ref br61), .unset] [(.int ((ea ^^^ (1 : Int32)).toInt8.toInt32)), (.int (0 : Int32)), (.ref br61)])) _
    exact k)
  obtain ⟨cl66, Ar66, kc66, S66, M66, H66, G66⟩ := id Vr61
  have hin66 := inb_of S66 (j := (0 : Int32)) (by decide)
  obtain ⟨T66, h66, X66, e66, W66, st66⟩ := stB X61 hx hZ e61 Ar66 (j := (0 : Int32)) hin66 (g := (mkF m 138 #[.val (.int p1), .val (.int p2), .val (.int p3), .val (.int (2 : Int32)), .val (.int xv), .val (.int yv), .val (.int vv), .val (.int ea), .val (.int eb), .val (.int ec2), .val (.ref b15), .val (.ref br21), .val (.ref br61), .unset] [(.int ((ea ^^^ (1 : Int32)).toInt8.toInt32)), (.int (0 : Int32)), (.ref br61)])) rfl rfl (hb hby at_138)
  have V66 : Arv Z h66 br61 kr61 .byte (1 : Int32) [(.int (nar .byte ((ea ^^^ (1 : Int32)).toInt8.toInt32)))] (.int (0 : Int32)) := Arv.set Ar66 kc66 S66 M66 H66 G66 (v := (.int (nar .byte ((ea ^^^ (1 : Int32)).toInt8.toInt32)))) (fits_nar_byte _) W66 0 (by decide) (by simp)
  have N66 := Fr.snoc X66 N61 g_br61
  have f67_0 := f62_0.wr W66
  have f67_1 := f62_1.other W66 (Or.inl ne_b15_br61)
  have f67_2 := f62_2.other W66 (Or.inl ne_b15_br61)
  have f67_3 := f62_3.other W66 ne_bb_br61
  have Z66 : n0 ≤ h66.size := Nat.le_trans Z61 (Keep.of_wr W66).1
  have pre68 : ∀ t, Steps p.tables e below (T66.setTop (mkF m 139 #[.val (.int p1), .val (.int p2), .val (.int p3), .val (.int (2 : Int32)), .val (.int xv), .val (.int yv), .val (.int vv), .val (.int ea), .val (.int eb), .val (.int ec2), .val (.ref b15), .val (.ref br21), .val (.ref br61), .unset] [])) t → Steps p.tables e below (s₁.setTop (entryFrame m #[(.int p1), (.int p2), (.int p3)] maxLocals)) t := fun t k => pre65 t (by
    show Steps p.tables e below (T61.setTop (mkF m 138 #[.val (.int p1), .val (.int p2), .val (.int p3), .val (.int (2 : Int32)), .val (.int xv), .val (.int yv), .val (.int vv), .val (.int ea), .val (.int eb), .val (.int ec2), .val (.ref b15), .val (.ref br21), .val (.ref br61), .unset] [(.int ((ea ^^^ (1 : Int32)).toInt8.toInt32)), (.int (0 : Int32)), (.ref br61)])) _
    refine st66 _ ?_
    show Steps p.tables e below (T66.setTop (mkF m 139 #[.val (.int p1), .val (.int p2), .val (.int p3), .val (.int (2 : Int32)), .val (.int xv), .val (.int yv), .val (.int vv), .val (.int ea), .val (.int eb), .val (.int ec2), .val (.ref b15), .val (.ref br21), .val (.ref br61), .unset] [])) _
    exact k)
  exact rs_0_7 l Z a0 hw ws p1 p2 p3 h0 n0 xv yv vv ea eb ec2 b15 bb kb br21 br61 Bd hZ hml h66 X66 e66 N66 Z66 pre68 f67_0 f67_1 f67_2 f67_3 ne_b15_bb ne_b15_br21 ne_bb_br21 ne_b15_br61 ne_bb_br61 g_b15 g_bb g_br21 g_br61 b_vv h_ea h_eb h_ec2
set_option maxRecDepth 65536 in
set_option maxHeartbeats 40000000 in
theorem rs_0_5 (l : Launch) (Z : State) (a0 : Array Value) (hw : ∀ d ∈ tables_1, d.before a0 Z = true) (ws : List Jvm.Cond) (p1 p2 p3 : Int32) (h0 : Heap) (n0 : Nat) (xv : Int32) (yv : Int32) (vv : Int32) (ea : Int32) (eb : Int32) (ec2 : Int32) (b15 : Addr) (bb : Addr) (kb : ClassId) (br43 : Addr) (kr43 : ClassId) (br21 : Addr) (br34 : Addr) {p e s m below meth c s₁} (Bd : BodyLoose p l x (head1 (Jvm.Cond.code x code maxLocals ret :: ws) room_1) code maxLocals ret e s m #[(.int p1), (.int p2), (.int p3)] below meth c s₁) (hZ : Z.Warmed39 s.vm) (hml : c.maxLocals = 14) {Tc Lc0} (hhc : Heap) (Xc : Stand p l e room_1 s m #[(.int p1), (.int p2), (.int p3)] below meth c Tc Lc0 5 523) (ec : Tc.heap = hhc) (Nc : Fr n0 Lc0) (Zc : n0 ≤ hhc.size) (prec : ∀ t, Steps p.tables e below (Tc.setTop (mkF m 180 #[.val (.int p1), .val (.int p2), .val (.int p3), .val (.int (1 : Int32)), .val (.int xv), .val (.int yv), .val (.int vv), .val (.int ea), .val (.int eb), .val (.int ec2), .val (.ref b15), .val (.ref br21), .val (.ref br43), .unset] [])) t → Steps p.tables e below (s₁.setTop (entryFrame m #[(.int p1), (.int p2), (.int p3)] maxLocals)) t) (fc5_0 : Exa Z hhc b15 "com/example/spanfacet/spanfacet/MsgpackWriter") (fc5_1 : Fld Z hhc b15 "com/example/spanfacet/spanfacet/MsgpackWriter" "buffer" "[B" (.ref bb)) (fc5_2 : Fld Z hhc b15 "com/example/spanfacet/spanfacet/MsgpackWriter" "size" "I" (.int (1 : Int32))) (fc5_3 : Arv Z hhc bb kb .byte (512 : Int32) [(.int ea)] (.int (0 : Int32))) (fc5_4 : Arv Z hhc br43 kr43 .byte (1 : Int32) [(.int ea)] (.int (0 : Int32))) (ne_b15_bb : b15 ≠ bb) (ne_b15_br21 : b15 ≠ br21) (ne_bb_br21 : bb ≠ br21) (ne_b15_br34 : b15 ≠ br34) (ne_bb_br34 : bb ≠ br34) (ne_b15_br43 : b15 ≠ br43) (ne_bb_br43 : bb ≠ br43) (g_b15 : n0 ≤ b15) (g_bb : n0 ≤ bb) (g_br21 : n0 ≤ br21) (g_br34 : n0 ≤ br34) (g_br43 : n0 ≤ br43) (b_vv : ¬ vv.toInt64 < (0 : Int64) ∧ ¬ (127 : Int64) < vv.toInt64) (h_ea : (xv = 0 → ea = (-62 : Int32)) ∧ (¬ xv = 0 → ea = (-61 : Int32))) (h_eb : vv.toInt8.toInt32 = eb) (h_ec2 : (yv = 0 → ec2 = (-62 : Int32)) ∧ (¬ yv = 0 → ec2 = (-61 : Int32))) :
    ∃ s₂ o, Steps p.tables e below (s₁.setTop (entryFrame m #[(.int p1), (.int p2), (.int p3)] maxLocals)) s₂ ∧ s₂.status = .running ∧ Ended s₂ below o ∧ ∃ v L, o = .returned v ∧ Q_0 Z p1 p2 p3 h0 n0 v s₂.heap L ∧ FrameEnd s o s₂ L room_1.cells room_1.slots := by
  have hx := Bd.exec
  have hby := Bd.bytes
  have hown : s.vm.findClass "com/example/spanfacet/spanfacet/MsgpackWriterToByteArrayPinLaw" = some m.cls := findClass_of_methodNamed Bd.named
  have hnm := (name_of_methodNamed Bd.named Bd.method).1
  obtain ⟨cl47, Ar47, kc47, S47, M47, H47, G47⟩ := id fc5_4
  have hin47 := inb_of S47 (j := (0 : Int32)) (by decide)
  have hat47 : cl47.slots[((0 : Int32)).toNatClampNeg]? = some (.int ea) := H47.at hin47 rfl
  have pre48 : ∀ t, Steps p.tables e below (Tc.setTop (mkF m 241 #[.val (.int p1), .val (.int p2), .val (.int p3), .val (.int (1 : Int32)), .val (.int xv), .val (.int yv), .val (.int vv), .val (.int ea), .val (.int eb), .val (.int ec2), .val (.ref b15), .val (.ref br21), .val (.ref br43), .unset] [(.int ((ea ^^^ (1 : Int32)).toInt8.toInt32)), (.int (0 : Int32)), (.ref br43)])) t → Steps p.tables e below (s₁.setTop (entryFrame m #[(.int p1), (.int p2), (.int p3)] maxLocals)) t := fun t k => prec t (by
    show Steps p.tables e below (Tc.setTop (mkF m 180 #[.val (.int p1), .val (.int p2), .val (.int p3), .val (.int (1 : Int32)), .val (.int xv), .val (.int yv), .val (.int vv), .val (.int ea), .val (.int eb), .val (.int ec2), .val (.ref b15), .val (.ref br21), .val (.ref br43), .unset] [])) _
    refine XS.iloadN Xc.here hx rfl (hb hby at_180) rfl ?_
    show Steps p.tables e below (Tc.setTop (mkF m 181 #[.val (.int p1), .val (.int p2), .val (.int p3), .val (.int (1 : Int32)), .val (.int xv), .val (.int yv), .val (.int vv), .val (.int ea), .val (.int eb), .val (.int ec2), .val (.ref b15), .val (.ref br21), .val (.ref br43), .unset] [(.int (1 : Int32))])) _
    refine XS.iconst Xc.here hx rfl (hb hby at_181) ?_
    show Steps p.tables e below (Tc.setTop (mkF m 182 #[.val (.int p1), .val (.int p2), .val (.int p3), .val (.int (1 : Int32)), .val (.int xv), .val (.int yv), .val (.int vv), .val (.int ea), .val (.int eb), .val (.int ec2), .val (.ref b15), .val (.ref br21), .val (.ref br43), .unset] [(.int (1 : Int32)), (.int (1 : Int32))])) _
    refine XS.icmpNo Xc.here hx rfl (hb hby at_182) rfl (XT.ii_lt_f (by decide)) ?_
    show Steps p.tables e below (Tc.setTop (mkF m 185 #[.val (.int p1), .val (.int p2), .val (.int p3), .val (.int (1 : Int32)), .val (.int xv), .val (.int yv), .val (.int vv), .val (.int ea), .val (.int eb), .val (.int ec2), .val (.ref b15), .val (.ref br21), .val (.ref br43), .unset] [])) _
    refine XS.aload Xc.here hx rfl (hb hby at_185) rfl rfl ?_
    show Steps p.tables e below (Tc.setTop (mkF m 187 #[.val (.int p1), .val (.int p2), .val (.int p3), .val (.int (1 : Int32)), .val (.int xv), .val (.int yv), .val (.int vv), .val (.int ea), .val (.int eb), .val (.int ec2), .val (.ref b15), .val (.ref br21), .val (.ref br43), .unset] [(.ref br43)])) _
    refine XS.iconst Xc.here hx rfl (hb hby at_187) ?_
    show Steps p.tables e below (Tc.setTop (mkF m 188 #[.val (.int p1), .val (.int p2), .val (.int p3), .val (.int (1 : Int32)), .val (.int xv), .val (.int yv), .val (.int vv), .val (.int ea), .val (.int eb), .val (.int ec2), .val (.ref b15), .val (.ref br21), .val (.ref br43), .unset] [(.int (0 : Int32)), (.ref br43)])) _
    refine Xc.baloadBytes hx (j := (0 : Int32)) (v := (.int ea)) (by rw [ec]; exact Ar47.1) (State.isArrayOf_alike hZ.alike Ar47.2.1) Ar47.2.2 hin47 hat47 (g := (mkF m 188 #[.val (.int p1), .val (.int p2), .val (.int p3), .val (.int (1 : Int32)), .val (.int xv), .val (.int yv), .val (.int vv), .val (.int ea), .val (.int eb), .val (.int ec2), .val (.ref b15), .val (.ref br21), .val (.ref br43), .unset] [(.int (0 : Int32)), (.ref br43)])) rfl rfl (hb hby at_188) _ ?_
    show Steps p.tables e below (Tc.setTop (mkF m 189 #[.val (.int p1), .val (.int p2), .val (.int p3), .val (.int (1 : Int32)), .val (.int xv), .val (.int yv), .val (.int vv), .val (.int ea), .val (.int eb), .val (.int ec2), .val (.ref b15), .val (.ref br21), .val (.ref br43), .unset] [(.int ea)])) _
    refine XS.iload Xc.here hx rfl (hb hby at_189) rfl ?_
    show Steps p.tables e below (Tc.setTop (mkF m 191 #[.val (.int p1), .val (.int p2), .val (.int p3), .val (.int (1 : Int32)), .val (.int xv), .val (.int yv), .val (.int vv), .val (.int ea), .val (.int eb), .val (.int ec2), .val (.ref b15), .val (.ref br21), .val (.ref br43), .unset] [(.int ea), (.int ea)])) _
    refine XS.icmpYes Xc.here hx rfl (pc0 := 191) (pc' := 196) rfl (hb hby at_191) rfl (XT.ii_eq_t rfl) (by decide) (by decide) ?_
    show Steps p.tables e below (Tc.setTop (mkF m 196 #[.val (.int p1), .val (.int p2), .val (.int p3), .val (.int (1 : Int32)), .val (.int xv), .val (.int yv), .val (.int vv), .val (.int ea), .val (.int eb), .val (.int ec2), .val (.ref b15), .val (.ref br21), .val (.ref br43), .unset] [])) _
    refine XS.iloadN Xc.here hx rfl (hb hby at_196) rfl ?_
    show Steps p.tables e below (Tc.setTop (mkF m 197 #[.val (.int p1), .val (.int p2), .val (.int p3), .val (.int (1 : Int32)), .val (.int xv), .val (.int yv), .val (.int vv), .val (.int ea), .val (.int eb), .val (.int ec2), .val (.ref b15), .val (.ref br21), .val (.ref br43), .unset] [(.int (1 : Int32))])) _
    refine XS.iconst Xc.here hx rfl (hb hby at_197) ?_
    show Steps p.tables e below (Tc.setTop (mkF m 198 #[.val (.int p1), .val (.int p2), .val (.int p3), .val (.int (1 : Int32)), .val (.int xv), .val (.int yv), .val (.int vv), .val (.int ea), .val (.int eb), .val (.int ec2), .val (.ref b15), .val (.ref br21), .val (.ref br43), .unset] [(.int (2 : Int32)), (.int (1 : Int32))])) _
    refine XS.icmpYes Xc.here hx rfl (pc0 := 198) (pc' := 212) rfl (hb hby at_198) rfl (XT.ii_lt_t (by decide)) (by decide) (by decide) ?_
    show Steps p.tables e below (Tc.setTop (mkF m 212 #[.val (.int p1), .val (.int p2), .val (.int p3), .val (.int (1 : Int32)), .val (.int xv), .val (.int yv), .val (.int vv), .val (.int ea), .val (.int eb), .val (.int ec2), .val (.ref b15), .val (.ref br21), .val (.ref br43), .unset] [])) _
    refine XS.iloadN Xc.here hx rfl (hb hby at_212) rfl ?_
    show Steps p.tables e below (Tc.setTop (mkF m 213 #[.val (.int p1), .val (.int p2), .val (.int p3), .val (.int (1 : Int32)), .val (.int xv), .val (.int yv), .val (.int vv), .val (.int ea), .val (.int eb), .val (.int ec2), .val (.ref b15), .val (.ref br21), .val (.ref br43), .unset] [(.int (1 : Int32))])) _
    refine XS.iconst Xc.here hx rfl (hb hby at_213) ?_
    show Steps p.tables e below (Tc.setTop (mkF m 214 #[.val (.int p1), .val (.int p2), .val (.int p3), .val (.int (1 : Int32)), .val (.int xv), .val (.int yv), .val (.int vv), .val (.int ea), .val (.int eb), .val (.int ec2), .val (.ref b15), .val (.ref br21), .val (.ref br43), .unset] [(.int (3 : Int32)), (.int (1 : Int32))])) _
    refine XS.icmpYes Xc.here hx rfl (pc0 := 214) (pc' := 228) rfl (hb hby at_214) rfl (XT.ii_lt_t (by decide)) (by decide) (by decide) ?_
    show Steps p.tables e below (Tc.setTop (mkF m 228 #[.val (.int p1), .val (.int p2), .val (.int p3), .val (.int (1 : Int32)), .val (.int xv), .val (.int yv), .val (.int vv), .val (.int ea), .val (.int eb), .val (.int ec2), .val (.ref b15), .val (.ref br21), .val (.ref br43), .unset] [])) _
    refine XS.iloadN Xc.here hx rfl (hb hby at_228) rfl ?_
    show Steps p.tables e below (Tc.setTop (mkF m 229 #[.val (.int p1), .val (.int p2), .val (.int p3), .val (.int (1 : Int32)), .val (.int xv), .val (.int yv), .val (.int vv), .val (.int ea), .val (.int eb), .val (.int ec2), .val (.ref b15), .val (.ref br21), .val (.ref br43), .unset] [(.int (1 : Int32))])) _
    refine XS.iconst Xc.here hx rfl (hb hby at_229) ?_
    show Steps p.tables e below (Tc.setTop (mkF m 230 #[.val (.int p1), .val (.int p2), .val (.int p3), .val (.int (1 : Int32)), .val (.int xv), .val (.int yv), .val (.int vv), .val (.int ea), .val (.int eb), .val (.int ec2), .val (.ref b15), .val (.ref br21), .val (.ref br43), .unset] [(.int (1 : Int32)), (.int (1 : Int32))])) _
    refine XS.icmpNo Xc.here hx rfl (hb hby at_230) rfl (XT.ii_lt_f (by decide)) ?_
    show Steps p.tables e below (Tc.setTop (mkF m 233 #[.val (.int p1), .val (.int p2), .val (.int p3), .val (.int (1 : Int32)), .val (.int xv), .val (.int yv), .val (.int vv), .val (.int ea), .val (.int eb), .val (.int ec2), .val (.ref b15), .val (.ref br21), .val (.ref br43), .unset] [])) _
    refine XS.aload Xc.here hx rfl (hb hby at_233) rfl rfl ?_
    show Steps p.tables e below (Tc.setTop (mkF m 235 #[.val (.int p1), .val (.int p2), .val (.int p3), .val (.int (1 : Int32)), .val (.int xv), .val (.int yv), .val (.int vv), .val (.int ea), .val (.int eb), .val (.int ec2), .val (.ref b15), .val (.ref br21), .val (.ref br43), .unset] [(.ref br43)])) _
    refine XS.iconst Xc.here hx rfl (hb hby at_235) ?_
    show Steps p.tables e below (Tc.setTop (mkF m 236 #[.val (.int p1), .val (.int p2), .val (.int p3), .val (.int (1 : Int32)), .val (.int xv), .val (.int yv), .val (.int vv), .val (.int ea), .val (.int eb), .val (.int ec2), .val (.ref b15), .val (.ref br21), .val (.ref br43), .unset] [(.int (0 : Int32)), (.ref br43)])) _
    refine XS.iload Xc.here hx rfl (hb hby at_236) rfl ?_
    show Steps p.tables e below (Tc.setTop (mkF m 238 #[.val (.int p1), .val (.int p2), .val (.int p3), .val (.int (1 : Int32)), .val (.int xv), .val (.int yv), .val (.int vv), .val (.int ea), .val (.int eb), .val (.int ec2), .val (.ref b15), .val (.ref br21), .val (.ref br43), .unset] [(.int ea), (.int (0 : Int32)), (.ref br43)])) _
    refine XS.iconst Xc.here hx rfl (hb hby at_238) ?_
    show Steps p.tables e below (Tc.setTop (mkF m 239 #[.val (.int p1), .val (.int p2), .val (.int p3), .val (.int (1 : Int32)), .val (.int xv), .val (.int yv), .val (.int vv), .val (.int ea), .val (.int eb), .val (.int ec2), .val (.ref b15), .val (.ref br21), .val (.ref br43), .unset] [(.int (1 : Int32)), (.int ea), (.int (0 : Int32)), (.ref br43)])) _
    refine XT.ixor Xc.here hx rfl (hb hby at_239) rfl ?_
    show Steps p.tables e below (Tc.setTop (mkF m 240 #[.val (.int p1), .val (.int p2), .val (.int p3), .val (.int (1 : Int32)), .val (.int xv), .val (.int yv), .val (.int vv), .val (.int ea), .val (.int eb), .val (.int ec2), .val (.ref b15), .val (.ref br21), .val (.ref br43), .unset] [(.int (ea ^^^ (1 : Int32))), (.int (0 : Int32)), (.ref br43)])) _
    refine XT.i2b Xc.here hx rfl (hb hby at_240) rfl ?_
    show Steps p.tables e below (Tc.setTop (mkF m 241 #[.val (.int p1), .val (.int p2), .val (.int p3), .val (.int (1 : Int32)), .val (.int xv), .val (.int yv), .val (.int vv), .val (.int ea), .val (.int eb), .val (.int ec2), .val (.ref b15), .val (.ref br21), .val (.ref br43), .unset] [(.int ((ea ^^^ (1 : Int32)).toInt8.toInt32)), (.int (0 : Int32)), (.ref br43)])) _
    exact k)
  obtain ⟨cl49, Ar49, kc49, S49, M49, H49, G49⟩ := id fc5_4
  have hin49 := inb_of S49 (j := (0 : Int32)) (by decide)
  obtain ⟨T49, h49, X49, e49, W49, st49⟩ := stB Xc hx hZ ec Ar49 (j := (0 : Int32)) hin49 (g := (mkF m 241 #[.val (.int p1), .val (.int p2), .val (.int p3), .val (.int (1 : Int32)), .val (.int xv), .val (.int yv), .val (.int vv), .val (.int ea), .val (.int eb), .val (.int ec2), .val (.ref b15), .val (.ref br21), .val (.ref br43), .unset] [(.int ((ea ^^^ (1 : Int32)).toInt8.toInt32)), (.int (0 : Int32)), (.ref br43)])) rfl rfl (hb hby at_241)
  have V49 : Arv Z h49 br43 kr43 .byte (1 : Int32) [(.int (nar .byte ((ea ^^^ (1 : Int32)).toInt8.toInt32)))] (.int (0 : Int32)) := Arv.set Ar49 kc49 S49 M49 H49 G49 (v := (.int (nar .byte ((ea ^^^ (1 : Int32)).toInt8.toInt32)))) (fits_nar_byte _) W49 0 (by decide) (by simp)
  have N49 := Fr.snoc X49 Nc g_br43
  have f50_0 := fc5_0.wr W49
  have f50_1 := fc5_1.other W49 (Or.inl ne_b15_br43)
  have f50_2 := fc5_2.other W49 (Or.inl ne_b15_br43)
  have f50_3 := fc5_3.other W49 ne_bb_br43
  have Z49 : n0 ≤ h49.size := Nat.le_trans Zc (Keep.of_wr W49).1
  have pre51 : ∀ t, Steps p.tables e below (T49.setTop (mkF m 244 #[.val (.int p1), .val (.int p2), .val (.int p3), .val (.int (1 : Int32)), .val (.int xv), .val (.int yv), .val (.int vv), .val (.int ea), .val (.int eb), .val (.int ec2), .val (.ref b15), .val (.ref br21), .val (.ref br43), .unset] [(.ref b15)])) t → Steps p.tables e below (s₁.setTop (entryFrame m #[(.int p1), (.int p2), (.int p3)] maxLocals)) t := fun t k => pre48 t (by
    show Steps p.tables e below (Tc.setTop (mkF m 241 #[.val (.int p1), .val (.int p2), .val (.int p3), .val (.int (1 : Int32)), .val (.int xv), .val (.int yv), .val (.int vv), .val (.int ea), .val (.int eb), .val (.int ec2), .val (.ref b15), .val (.ref br21), .val (.ref br43), .unset] [(.int ((ea ^^^ (1 : Int32)).toInt8.toInt32)), (.int (0 : Int32)), (.ref br43)])) _
    refine st49 _ ?_
    show Steps p.tables e below (T49.setTop (mkF m 242 #[.val (.int p1), .val (.int p2), .val (.int p3), .val (.int (1 : Int32)), .val (.int xv), .val (.int yv), .val (.int vv), .val (.int ea), .val (.int eb), .val (.int ec2), .val (.ref b15), .val (.ref br21), .val (.ref br43), .unset] [])) _
    refine XS.aload X49.here hx rfl (hb hby at_242) rfl rfl ?_
    show Steps p.tables e below (T49.setTop (mkF m 244 #[.val (.int p1), .val (.int p2), .val (.int p3), .val (.int (1 : Int32)), .val (.int xv), .val (.int yv), .val (.int vv), .val (.int ea), .val (.int eb), .val (.int ec2), .val (.ref b15), .val (.ref br21), .val (.ref br43), .unset] [(.ref b15)])) _
    exact k)
  obtain ⟨cq52, kq52, q52a, q52b, q52c⟩ := isOf hZ e49 f50_0
  obtain ⟨_, _, ⟨T52, L52, kk52, nn52⟩, -, X52, ⟨Lc52, hQ52, l52, y52, z52⟩, st52⟩ := X49.virtualBack hx (y := (⟨"com/example/spanfacet/spanfacet/MsgpackWriter", "toByteArray", "()[B"⟩ : MethodName)) (z := (⟨"com/example/spanfacet/spanfacet/MsgpackWriter", "toByteArray", "()[B"⟩ : MethodName)) hown (mvT hZ (hw _ (List.mem_of_getElem? (i := 12) rfl))) (mvT hZ (hw _ (List.mem_of_getElem? (i := 13) rfl))) (notFace_of_selects (args := #[]) (mvT hZ (hw _ (List.mem_of_getElem? (i := 15) rfl)))) (mvT hZ (hw _ (List.mem_of_getElem? (i := 15) rfl))) (mvT hZ (hw _ (List.mem_of_getElem? (i := 14) rfl))) (by decide) (backOf (W := 0) (rm_tba l Z a0 hw [] b15 bb (1 : Int32) kb [(.int ea)] h49 n0 Z49 f50_1 f50_2 f50_3 (show (1 : Int32) = Int32.ofNat 1 from by decide) (show 1 ≤ 3 from by decide)) hZ (hw _ (List.mem_of_getElem? (i := 16) rfl)) (hw _ (List.mem_of_getElem? (i := 2) rfl)) (by decide) (by decide)) q52a q52c (g := (mkF m 244 #[.val (.int p1), .val (.int p2), .val (.int p3), .val (.int (1 : Int32)), .val (.int xv), .val (.int yv), .val (.int vv), .val (.int ea), .val (.int eb), .val (.int ec2), .val (.ref b15), .val (.ref br21), .val (.ref br43), .unset] [(.ref b15)])) rfl (by rw [hml]; rfl) (Steps.refl _) (argsL := []) (rest := []) (lenOf pd____B rfl) rfl (by show 2 * 0 + _ ≤ _; exact Nat.le_of_eq rfl) (hb hby at_244) (fun _ _ => ⟨rfl, e49, (by decide : 5 + 1 ≤ _), (by decide : 523 + 3 ≤ _)⟩)
  dsimp only [Pt.U, Pt.locs, Pt.cells, Pt.slots] at X52 l52 y52 z52 st52 hQ52
  subst l52 y52 z52
  obtain ⟨br52, kr52, rfl, N52q, Kc52, g_br52, sr52, Vr52⟩ := hQ52
  have N52 := Fr.app N49 N52q
  have f53_0 := f50_0.keep Kc52
  have f53_1 := f50_1.keep Kc52 (by simp)
  have f53_2 := f50_2.keep Kc52 (by simp)
  have f53_3 := f50_3.keep Kc52 (by simp)
  have Z52 : n0 ≤ T52.heap.size := Nat.le_trans Z49 Kc52.1
  have e52 : T52.heap = T52.heap := rfl
  have ne_b15_br52 : b15 ≠ br52 := Nat.ne_of_lt (Nat.lt_of_lt_of_le f50_0.lt sr52)
  have ne_bb_br52 : bb ≠ br52 := Nat.ne_of_lt (Nat.lt_of_lt_of_le f50_3.lt sr52)
  obtain ⟨cl54, Ar54, kc54, S54, M54, H54, G54⟩ := id Vr52
  obtain ⟨cl55, Ar55, kc55, S55, M55, H55, G55⟩ := id Vr52
  have hin55 := inb_of S55 (j := (0 : Int32)) (by decide)
  have hat55 : cl55.slots[((0 : Int32)).toNatClampNeg]? = some (.int ea) := H55.at hin55 rfl
  have pre56 : ∀ t, Steps p.tables e below (T52.setTop (mkF m 268 #[.val (.int p1), .val (.int p2), .val (.int p3), .val (.int (1 : Int32)), .val (.int xv), .val (.int yv), .val (.int vv), .val (.int ea), .val (.int eb), .val (.int ec2), .val (.ref b15), .val (.ref br21), .val (.ref br43), .val (.ref br52)] [(.int (1 : Int32))])) t → Steps p.tables e below (s₁.setTop (entryFrame m #[(.int p1), (.int p2), (.int p3)] maxLocals)) t := fun t k => pre51 t (by
    show Steps p.tables e below (T49.setTop (mkF m 244 #[.val (.int p1), .val (.int p2), .val (.int p3), .val (.int (1 : Int32)), .val (.int xv), .val (.int yv), .val (.int vv), .val (.int ea), .val (.int eb), .val (.int ec2), .val (.ref b15), .val (.ref br21), .val (.ref br43), .unset] [(.ref b15)])) _
    refine st52.trans ?_
    show Steps p.tables e below (T52.setTop (mkF m 247 #[.val (.int p1), .val (.int p2), .val (.int p3), .val (.int (1 : Int32)), .val (.int xv), .val (.int yv), .val (.int vv), .val (.int ea), .val (.int eb), .val (.int ec2), .val (.ref b15), .val (.ref br21), .val (.ref br43), .unset] [(.ref br52)])) _
    refine XS.astore X52.here hx rfl (hb hby at_247) rfl rfl (l' := #[.val (.int p1), .val (.int p2), .val (.int p3), .val (.int (1 : Int32)), .val (.int xv), .val (.int yv), .val (.int vv), .val (.int ea), .val (.int eb), .val (.int ec2), .val (.ref b15), .val (.ref br21), .val (.ref br43), .val (.ref br52)]) rfl ?_
    show Steps p.tables e below (T52.setTop (mkF m 249 #[.val (.int p1), .val (.int p2), .val (.int p3), .val (.int (1 : Int32)), .val (.int xv), .val (.int yv), .val (.int vv), .val (.int ea), .val (.int eb), .val (.int ec2), .val (.ref b15), .val (.ref br21), .val (.ref br43), .val (.ref br52)] [])) _
    refine XS.aload X52.here hx rfl (hb hby at_249) rfl rfl ?_
    show Steps p.tables e below (T52.setTop (mkF m 251 #[.val (.int p1), .val (.int p2), .val (.int p3), .val (.int (1 : Int32)), .val (.int xv), .val (.int yv), .val (.int vv), .val (.int ea), .val (.int eb), .val (.int ec2), .val (.ref b15), .val (.ref br21), .val (.ref br43), .val (.ref br52)] [(.ref br52)])) _
    refine X52.arraylength hx (cell := cl54) (by rw [e52]; exact Ar54.1) (State.isArrayOf_alike hZ.alike Ar54.2.1) (g := (mkF m 251 #[.val (.int p1), .val (.int p2), .val (.int p3), .val (.int (1 : Int32)), .val (.int xv), .val (.int yv), .val (.int vv), .val (.int ea), .val (.int eb), .val (.int ec2), .val (.ref b15), .val (.ref br21), .val (.ref br43), .val (.ref br52)] [(.ref br52)])) rfl (rest := []) rfl (hb hby at_251) _ ?_
    rw [len_of S54 M54]
    show Steps p.tables e below (T52.setTop (mkF m 252 #[.val (.int p1), .val (.int p2), .val (.int p3), .val (.int (1 : Int32)), .val (.int xv), .val (.int yv), .val (.int vv), .val (.int ea), .val (.int eb), .val (.int ec2), .val (.ref b15), .val (.ref br21), .val (.ref br43), .val (.ref br52)] [(.int (1 : Int32))])) _
    refine XS.iloadN X52.here hx rfl (hb hby at_252) rfl ?_
    show Steps p.tables e below (T52.setTop (mkF m 253 #[.val (.int p1), .val (.int p2), .val (.int p3), .val (.int (1 : Int32)), .val (.int xv), .val (.int yv), .val (.int vv), .val (.int ea), .val (.int eb), .val (.int ec2), .val (.ref b15), .val (.ref br21), .val (.ref br43), .val (.ref br52)] [(.int (1 : Int32)), (.int (1 : Int32))])) _
    refine XS.icmpNo X52.here hx rfl (hb hby at_253) rfl (XT.ii_ne_f rfl) ?_
    show Steps p.tables e below (T52.setTop (mkF m 256 #[.val (.int p1), .val (.int p2), .val (.int p3), .val (.int (1 : Int32)), .val (.int xv), .val (.int yv), .val (.int vv), .val (.int ea), .val (.int eb), .val (.int ec2), .val (.ref b15), .val (.ref br21), .val (.ref br43), .val (.ref br52)] [])) _
    refine XS.aload X52.here hx rfl (hb hby at_256) rfl rfl ?_
    show Steps p.tables e below (T52.setTop (mkF m 258 #[.val (.int p1), .val (.int p2), .val (.int p3), .val (.int (1 : Int32)), .val (.int xv), .val (.int yv), .val (.int vv), .val (.int ea), .val (.int eb), .val (.int ec2), .val (.ref b15), .val (.ref br21), .val (.ref br43), .val (.ref br52)] [(.ref br52)])) _
    refine XS.iconst X52.here hx rfl (hb hby at_258) ?_
    show Steps p.tables e below (T52.setTop (mkF m 259 #[.val (.int p1), .val (.int p2), .val (.int p3), .val (.int (1 : Int32)), .val (.int xv), .val (.int yv), .val (.int vv), .val (.int ea), .val (.int eb), .val (.int ec2), .val (.ref b15), .val (.ref br21), .val (.ref br43), .val (.ref br52)] [(.int (0 : Int32)), (.ref br52)])) _
    refine X52.baloadBytes hx (j := (0 : Int32)) (v := (.int ea)) (by rw [e52]; exact Ar55.1) (State.isArrayOf_alike hZ.alike Ar55.2.1) Ar55.2.2 hin55 hat55 (g := (mkF m 259 #[.val (.int p1), .val (.int p2), .val (.int p3), .val (.int (1 : Int32)), .val (.int xv), .val (.int yv), .val (.int vv), .val (.int ea), .val (.int eb), .val (.int ec2), .val (.ref b15), .val (.ref br21), .val (.ref br43), .val (.ref br52)] [(.int (0 : Int32)), (.ref br52)])) rfl rfl (hb hby at_259) _ ?_
    show Steps p.tables e below (T52.setTop (mkF m 260 #[.val (.int p1), .val (.int p2), .val (.int p3), .val (.int (1 : Int32)), .val (.int xv), .val (.int yv), .val (.int vv), .val (.int ea), .val (.int eb), .val (.int ec2), .val (.ref b15), .val (.ref br21), .val (.ref br43), .val (.ref br52)] [(.int ea)])) _
    refine XS.iload X52.here hx rfl (hb hby at_260) rfl ?_
    show Steps p.tables e below (T52.setTop (mkF m 262 #[.val (.int p1), .val (.int p2), .val (.int p3), .val (.int (1 : Int32)), .val (.int xv), .val (.int yv), .val (.int vv), .val (.int ea), .val (.int eb), .val (.int ec2), .val (.ref b15), .val (.ref br21), .val (.ref br43), .val (.ref br52)] [(.int ea), (.int ea)])) _
    refine XS.icmpYes X52.here hx rfl (pc0 := 262) (pc' := 267) rfl (hb hby at_262) rfl (XT.ii_eq_t rfl) (by decide) (by decide) ?_
    show Steps p.tables e below (T52.setTop (mkF m 267 #[.val (.int p1), .val (.int p2), .val (.int p3), .val (.int (1 : Int32)), .val (.int xv), .val (.int yv), .val (.int vv), .val (.int ea), .val (.int eb), .val (.int ec2), .val (.ref b15), .val (.ref br21), .val (.ref br43), .val (.ref br52)] [])) _
    refine XS.iconst X52.here hx rfl (hb hby at_267) ?_
    show Steps p.tables e below (T52.setTop (mkF m 268 #[.val (.int p1), .val (.int p2), .val (.int p3), .val (.int (1 : Int32)), .val (.int xv), .val (.int yv), .val (.int vv), .val (.int ea), .val (.int eb), .val (.int ec2), .val (.ref b15), .val (.ref br21), .val (.ref br43), .val (.ref br52)] [(.int (1 : Int32))])) _
    exact k)
  obtain ⟨fs, hr, hrun, hended, hW, hsame⟩ := X52.leave (v := some (.int (1 : Int32))) (fun h => by rw [Bd.returns] at h; cases h)
  refine ⟨_, _, pre56 _ ?_, hrun, hended, _, _, rfl, ?_, ⟨_, rfl⟩, hW, hsame.mono (by decide) (by decide)⟩
  · exact retN X52 hx (t := .boolean) Bd.returns (by simp) (hb hby at_268) hr
  · show Q_0 Z p1 p2 p3 h0 n0 _ T52.heap _
    skip
    exact ⟨rfl, N52⟩
set_option maxRecDepth 65536 in
set_option maxHeartbeats 40000000 in
theorem rs_0_4 (l : Launch) (Z : State) (a0 : Array Value) (hw : ∀ d ∈ tables_1, d.before a0 Z = true) (ws : List Jvm.Cond) (p1 p2 p3 : Int32) (h0 : Heap) (n0 : Nat) (xv : Int32) (yv : Int32) (vv : Int32) (ea : Int32) (eb : Int32) (ec2 : Int32) (b15 : Addr) (bb : Addr) (kb : ClassId) (br21 : Addr) (br34 : Addr) {p e s m below meth c s₁} (Bd : BodyLoose p l x (head1 (Jvm.Cond.code x code maxLocals ret :: ws) room_1) code maxLocals ret e s m #[(.int p1), (.int p2), (.int p3)] below meth c s₁) (hZ : Z.Warmed39 s.vm) (hml : c.maxLocals = 14) {Tc Lc0} (hhc : Heap) (Xc : Stand p l e room_1 s m #[(.int p1), (.int p2), (.int p3)] below meth c Tc Lc0 4 520) (ec : Tc.heap = hhc) (Nc : Fr n0 Lc0) (Zc : n0 ≤ hhc.size) (prec : ∀ t, Steps p.tables e below (Tc.setTop (mkF m 139 #[.val (.int p1), .val (.int p2), .val (.int p3), .val (.int (1 : Int32)), .val (.int xv), .val (.int yv), .val (.int vv), .val (.int ea), .val (.int eb), .val (.int ec2), .val (.ref b15), .val (.ref br21), .val (.ref br34), .unset] [])) t → Steps p.tables e below (s₁.setTop (entryFrame m #[(.int p1), (.int p2), (.int p3)] maxLocals)) t) (fc4_0 : Exa Z hhc b15 "com/example/spanfacet/spanfacet/MsgpackWriter") (fc4_1 : Fld Z hhc b15 "com/example/spanfacet/spanfacet/MsgpackWriter" "buffer" "[B" (.ref bb)) (fc4_2 : Fld Z hhc b15 "com/example/spanfacet/spanfacet/MsgpackWriter" "size" "I" (.int (1 : Int32))) (fc4_3 : Arv Z hhc bb kb .byte (512 : Int32) [(.int ea)] (.int (0 : Int32))) (ne_b15_bb : b15 ≠ bb) (ne_b15_br21 : b15 ≠ br21) (ne_bb_br21 : bb ≠ br21) (ne_b15_br34 : b15 ≠ br34) (ne_bb_br34 : bb ≠ br34) (g_b15 : n0 ≤ b15) (g_bb : n0 ≤ bb) (g_br21 : n0 ≤ br21) (g_br34 : n0 ≤ br34) (b_vv : ¬ vv.toInt64 < (0 : Int64) ∧ ¬ (127 : Int64) < vv.toInt64) (h_ea : (xv = 0 → ea = (-62 : Int32)) ∧ (¬ xv = 0 → ea = (-61 : Int32))) (h_eb : vv.toInt8.toInt32 = eb) (h_ec2 : (yv = 0 → ec2 = (-62 : Int32)) ∧ (¬ yv = 0 → ec2 = (-61 : Int32))) :
    ∃ s₂ o, Steps p.tables e below (s₁.setTop (entryFrame m #[(.int p1), (.int p2), (.int p3)] maxLocals)) s₂ ∧ s₂.status = .running ∧ Ended s₂ below o ∧ ∃ v L, o = .returned v ∧ Q_0 Z p1 p2 p3 h0 n0 v s₂.heap L ∧ FrameEnd s o s₂ L room_1.cells room_1.slots := by
  have hx := Bd.exec
  have hby := Bd.bytes
  have hown : s.vm.findClass "com/example/spanfacet/spanfacet/MsgpackWriterToByteArrayPinLaw" = some m.cls := findClass_of_methodNamed Bd.named
  have hnm := (name_of_methodNamed Bd.named Bd.method).1
  have pre42 : ∀ t, Steps p.tables e below (Tc.setTop (mkF m 166 #[.val (.int p1), .val (.int p2), .val (.int p3), .val (.int (1 : Int32)), .val (.int xv), .val (.int yv), .val (.int vv), .val (.int ea), .val (.int eb), .val (.int ec2), .val (.ref b15), .val (.ref br21), .val (.ref br34), .unset] [(.ref b15)])) t → Steps p.tables e below (s₁.setTop (entryFrame m #[(.int p1), (.int p2), (.int p3)] maxLocals)) t := fun t k => prec t (by
    show Steps p.tables e below (Tc.setTop (mkF m 139 #[.val (.int p1), .val (.int p2), .val (.int p3), .val (.int (1 : Int32)), .val (.int xv), .val (.int yv), .val (.int vv), .val (.int ea), .val (.int eb), .val (.int ec2), .val (.ref b15), .val (.ref br21), .val (.ref br34), .unset] [])) _
    refine XS.iloadN Xc.here hx rfl (hb hby at_139) rfl ?_
    show Steps p.tables e below (Tc.setTop (mkF m 140 #[.val (.int p1), .val (.int p2), .val (.int p3), .val (.int (1 : Int32)), .val (.int xv), .val (.int yv), .val (.int vv), .val (.int ea), .val (.int eb), .val (.int ec2), .val (.ref b15), .val (.ref br21), .val (.ref br34), .unset] [(.int (1 : Int32))])) _
    refine XS.iconst Xc.here hx rfl (hb hby at_140) ?_
    show Steps p.tables e below (Tc.setTop (mkF m 141 #[.val (.int p1), .val (.int p2), .val (.int p3), .val (.int (1 : Int32)), .val (.int xv), .val (.int yv), .val (.int vv), .val (.int ea), .val (.int eb), .val (.int ec2), .val (.ref b15), .val (.ref br21), .val (.ref br34), .unset] [(.int (2 : Int32)), (.int (1 : Int32))])) _
    refine XS.icmpYes Xc.here hx rfl (pc0 := 141) (pc' := 152) rfl (hb hby at_141) rfl (XT.ii_lt_t (by decide)) (by decide) (by decide) ?_
    show Steps p.tables e below (Tc.setTop (mkF m 152 #[.val (.int p1), .val (.int p2), .val (.int p3), .val (.int (1 : Int32)), .val (.int xv), .val (.int yv), .val (.int vv), .val (.int ea), .val (.int eb), .val (.int ec2), .val (.ref b15), .val (.ref br21), .val (.ref br34), .unset] [])) _
    refine XS.iloadN Xc.here hx rfl (hb hby at_152) rfl ?_
    show Steps p.tables e below (Tc.setTop (mkF m 153 #[.val (.int p1), .val (.int p2), .val (.int p3), .val (.int (1 : Int32)), .val (.int xv), .val (.int yv), .val (.int vv), .val (.int ea), .val (.int eb), .val (.int ec2), .val (.ref b15), .val (.ref br21), .val (.ref br34), .unset] [(.int (1 : Int32))])) _
    refine XS.iconst Xc.here hx rfl (hb hby at_153) ?_
    show Steps p.tables e below (Tc.setTop (mkF m 154 #[.val (.int p1), .val (.int p2), .val (.int p3), .val (.int (1 : Int32)), .val (.int xv), .val (.int yv), .val (.int vv), .val (.int ea), .val (.int eb), .val (.int ec2), .val (.ref b15), .val (.ref br21), .val (.ref br34), .unset] [(.int (3 : Int32)), (.int (1 : Int32))])) _
    refine XS.icmpYes Xc.here hx rfl (pc0 := 154) (pc' := 164) rfl (hb hby at_154) rfl (XT.ii_lt_t (by decide)) (by decide) (by decide) ?_
    show Steps p.tables e below (Tc.setTop (mkF m 164 #[.val (.int p1), .val (.int p2), .val (.int p3), .val (.int (1 : Int32)), .val (.int xv), .val (.int yv), .val (.int vv), .val (.int ea), .val (.int eb), .val (.int ec2), .val (.ref b15), .val (.ref br21), .val (.ref br34), .unset] [])) _
    refine XS.aload Xc.here hx rfl (hb hby at_164) rfl rfl ?_
    show Steps p.tables e below (Tc.setTop (mkF m 166 #[.val (.int p1), .val (.int p2), .val (.int p3), .val (.int (1 : Int32)), .val (.int xv), .val (.int yv), .val (.int vv), .val (.int ea), .val (.int eb), .val (.int ec2), .val (.ref b15), .val (.ref br21), .val (.ref br34), .unset] [(.ref b15)])) _
    exact k)
  obtain ⟨cq43, kq43, q43a, q43b, q43c⟩ := isOf hZ ec fc4_0
  obtain ⟨_, _, ⟨T43, L43, kk43, nn43⟩, -, X43, ⟨Lc43, hQ43, l43, y43, z43⟩, st43⟩ := Xc.virtualBack hx (y := (⟨"com/example/spanfacet/spanfacet/MsgpackWriter", "toByteArray", "()[B"⟩ : MethodName)) (z := (⟨"com/example/spanfacet/spanfacet/MsgpackWriter", "toByteArray", "()[B"⟩ : MethodName)) hown (mvT hZ (hw _ (List.mem_of_getElem? (i := 12) rfl))) (mvT hZ (hw _ (List.mem_of_getElem? (i := 13) rfl))) (notFace_of_selects (args := #[]) (mvT hZ (hw _ (List.mem_of_getElem? (i := 15) rfl)))) (mvT hZ (hw _ (List.mem_of_getElem? (i := 15) rfl))) (mvT hZ (hw _ (List.mem_of_getElem? (i := 14) rfl))) (by decide) (backOf (W := 0) (rm_tba l Z a0 hw [] b15 bb (1 : Int32) kb [(.int ea)] hhc n0 Zc fc4_1 fc4_2 fc4_3 (show (1 : Int32) = Int32.ofNat 1 from by decide) (show 1 ≤ 3 from by decide)) hZ (hw _ (List.mem_of_getElem? (i := 16) rfl)) (hw _ (List.mem_of_getElem? (i := 2) rfl)) (by decide) (by decide)) q43a q43c (g := (mkF m 166 #[.val (.int p1), .val (.int p2), .val (.int p3), .val (.int (1 : Int32)), .val (.int xv), .val (.int yv), .val (.int vv), .val (.int ea), .val (.int eb), .val (.int ec2), .val (.ref b15), .val (.ref br21), .val (.ref br34), .unset] [(.ref b15)])) rfl (by rw [hml]; rfl) (Steps.refl _) (argsL := []) (rest := []) (lenOf pd____B rfl) rfl (by show 2 * 0 + _ ≤ _; exact Nat.le_of_eq rfl) (hb hby at_166) (fun _ _ => ⟨rfl, ec, (by decide : 4 + 1 ≤ _), (by decide : 520 + 3 ≤ _)⟩)
  dsimp only [Pt.U, Pt.locs, Pt.cells, Pt.slots] at X43 l43 y43 z43 st43 hQ43
  subst l43 y43 z43
  obtain ⟨br43, kr43, rfl, N43q, Kc43, g_br43, sr43, Vr43⟩ := hQ43
  have N43 := Fr.app Nc N43q
  have f44_0 := fc4_0.keep Kc43
  have f44_1 := fc4_1.keep Kc43 (by simp)
  have f44_2 := fc4_2.keep Kc43 (by simp)
  have f44_3 := fc4_3.keep Kc43 (by simp)
  have Z43 : n0 ≤ T43.heap.size := Nat.le_trans Zc Kc43.1
  have e43 : T43.heap = T43.heap := rfl
  have ne_b15_br43 : b15 ≠ br43 := Nat.ne_of_lt (Nat.lt_of_lt_of_le fc4_0.lt sr43)
  have ne_bb_br43 : bb ≠ br43 := Nat.ne_of_lt (Nat.lt_of_lt_of_le fc4_3.lt sr43)
  obtain ⟨cl45, Ar45, kc45, S45, M45, H45, G45⟩ := id Vr43
  have pre46 : ∀ t, Steps p.tables e below (T43.setTop (mkF m 180 #[.val (.int p1), .val (.int p2), .val (.int p3), .val (.int (1 : Int32)), .val (.int xv), .val (.int yv), .val (.int vv), .val (.int ea), .val (.int eb), .val (.int ec2), .val (.ref b15), .val (.ref br21), .val (.ref br43), .unset] [])) t → Steps p.tables e below (s₁.setTop (entryFrame m #[(.int p1), (.int p2), (.int p3)] maxLocals)) t := fun t k => pre42 t (by
    show Steps p.tables e below (Tc.setTop (mkF m 166 #[.val (.int p1), .val (.int p2), .val (.int p3), .val (.int (1 : Int32)), .val (.int xv), .val (.int yv), .val (.int vv), .val (.int ea), .val (.int eb), .val (.int ec2), .val (.ref b15), .val (.ref br21), .val (.ref br34), .unset] [(.ref b15)])) _
    refine st43.trans ?_
    show Steps p.tables e below (T43.setTop (mkF m 169 #[.val (.int p1), .val (.int p2), .val (.int p3), .val (.int (1 : Int32)), .val (.int xv), .val (.int yv), .val (.int vv), .val (.int ea), .val (.int eb), .val (.int ec2), .val (.ref b15), .val (.ref br21), .val (.ref br34), .unset] [(.ref br43)])) _
    refine XS.astore X43.here hx rfl (hb hby at_169) rfl rfl (l' := #[.val (.int p1), .val (.int p2), .val (.int p3), .val (.int (1 : Int32)), .val (.int xv), .val (.int yv), .val (.int vv), .val (.int ea), .val (.int eb), .val (.int ec2), .val (.ref b15), .val (.ref br21), .val (.ref br43), .unset]) rfl ?_
    show Steps p.tables e below (T43.setTop (mkF m 171 #[.val (.int p1), .val (.int p2), .val (.int p3), .val (.int (1 : Int32)), .val (.int xv), .val (.int yv), .val (.int vv), .val (.int ea), .val (.int eb), .val (.int ec2), .val (.ref b15), .val (.ref br21), .val (.ref br43), .unset] [])) _
    refine XS.aload X43.here hx rfl (hb hby at_171) rfl rfl ?_
    show Steps p.tables e below (T43.setTop (mkF m 173 #[.val (.int p1), .val (.int p2), .val (.int p3), .val (.int (1 : Int32)), .val (.int xv), .val (.int yv), .val (.int vv), .val (.int ea), .val (.int eb), .val (.int ec2), .val (.ref b15), .val (.ref br21), .val (.ref br43), .unset] [(.ref br43)])) _
    refine X43.arraylength hx (cell := cl45) (by rw [e43]; exact Ar45.1) (State.isArrayOf_alike hZ.alike Ar45.2.1) (g := (mkF m 173 #[.val (.int p1), .val (.int p2), .val (.int p3), .val (.int (1 : Int32)), .val (.int xv), .val (.int yv), .val (.int vv), .val (.int ea), .val (.int eb), .val (.int ec2), .val (.ref b15), .val (.ref br21), .val (.ref br43), .unset] [(.ref br43)])) rfl (rest := []) rfl (hb hby at_173) _ ?_
    rw [len_of S45 M45]
    show Steps p.tables e below (T43.setTop (mkF m 174 #[.val (.int p1), .val (.int p2), .val (.int p3), .val (.int (1 : Int32)), .val (.int xv), .val (.int yv), .val (.int vv), .val (.int ea), .val (.int eb), .val (.int ec2), .val (.ref b15), .val (.ref br21), .val (.ref br43), .unset] [(.int (1 : Int32))])) _
    refine XS.iloadN X43.here hx rfl (hb hby at_174) rfl ?_
    show Steps p.tables e below (T43.setTop (mkF m 175 #[.val (.int p1), .val (.int p2), .val (.int p3), .val (.int (1 : Int32)), .val (.int xv), .val (.int yv), .val (.int vv), .val (.int ea), .val (.int eb), .val (.int ec2), .val (.ref b15), .val (.ref br21), .val (.ref br43), .unset] [(.int (1 : Int32)), (.int (1 : Int32))])) _
    refine XS.icmpYes X43.here hx rfl (pc0 := 175) (pc' := 180) rfl (hb hby at_175) rfl (XT.ii_eq_t rfl) (by decide) (by decide) ?_
    show Steps p.tables e below (T43.setTop (mkF m 180 #[.val (.int p1), .val (.int p2), .val (.int p3), .val (.int (1 : Int32)), .val (.int xv), .val (.int yv), .val (.int vv), .val (.int ea), .val (.int eb), .val (.int ec2), .val (.ref b15), .val (.ref br21), .val (.ref br43), .unset] [])) _
    exact k)
  exact rs_0_5 l Z a0 hw ws p1 p2 p3 h0 n0 xv yv vv ea eb ec2 b15 bb kb br43 kr43 br21 br34 Bd hZ hml T43.heap X43 e43 N43 Z43 pre46 f44_0 f44_1 f44_2 f44_3 Vr43 ne_b15_bb ne_b15_br21 ne_bb_br21 ne_b15_br34 ne_bb_br34 ne_b15_br43 ne_bb_br43 g_b15 g_bb g_br21 g_br34 g_br43 b_vv h_ea h_eb h_ec2
set_option maxRecDepth 65536 in
set_option maxHeartbeats 40000000 in
theorem rs_0_3 (l : Launch) (Z : State) (a0 : Array Value) (hw : ∀ d ∈ tables_1, d.before a0 Z = true) (ws : List Jvm.Cond) (p1 p2 p3 : Int32) (h0 : Heap) (n0 : Nat) (xv : Int32) (yv : Int32) (vv : Int32) (ea : Int32) (eb : Int32) (ec2 : Int32) (b15 : Addr) (bb : Addr) (kb : ClassId) (br21 : Addr) {p e s m below meth c s₁} (Bd : BodyLoose p l x (head1 (Jvm.Cond.code x code maxLocals ret :: ws) room_1) code maxLocals ret e s m #[(.int p1), (.int p2), (.int p3)] below meth c s₁) (hZ : Z.Warmed39 s.vm) (hml : c.maxLocals = 14) {Tc Lc0} (hhc : Heap) (Xc : Stand p l e room_1 s m #[(.int p1), (.int p2), (.int p3)] below meth c Tc Lc0 3 517) (ec : Tc.heap = hhc) (Nc : Fr n0 Lc0) (Zc : n0 ≤ hhc.size) (prec : ∀ t, Steps p.tables e below (Tc.setTop (mkF m 93 #[.val (.int p1), .val (.int p2), .val (.int p3), .val (.int (1 : Int32)), .val (.int xv), .val (.int yv), .val (.int vv), .val (.int ea), .val (.int eb), .val (.int ec2), .val (.ref b15), .val (.ref br21), .unset, .unset] [])) t → Steps p.tables e below (s₁.setTop (entryFrame m #[(.int p1), (.int p2), (.int p3)] maxLocals)) t) (fc3_0 : Exa Z hhc b15 "com/example/spanfacet/spanfacet/MsgpackWriter") (fc3_1 : Fld Z hhc b15 "com/example/spanfacet/spanfacet/MsgpackWriter" "buffer" "[B" (.ref bb)) (fc3_2 : Fld Z hhc b15 "com/example/spanfacet/spanfacet/MsgpackWriter" "size" "I" (.int (0 : Int32))) (fc3_3 : Arv Z hhc bb kb .byte (512 : Int32) [] (.int (0 : Int32))) (ne_b15_bb : b15 ≠ bb) (ne_b15_br21 : b15 ≠ br21) (ne_bb_br21 : bb ≠ br21) (g_b15 : n0 ≤ b15) (g_bb : n0 ≤ bb) (g_br21 : n0 ≤ br21) (b_vv : ¬ vv.toInt64 < (0 : Int64) ∧ ¬ (127 : Int64) < vv.toInt64) (h_ea : (xv = 0 → ea = (-62 : Int32)) ∧ (¬ xv = 0 → ea = (-61 : Int32))) (h_eb : vv.toInt8.toInt32 = eb) (h_ec2 : (yv = 0 → ec2 = (-62 : Int32)) ∧ (¬ yv = 0 → ec2 = (-61 : Int32))) :
    ∃ s₂ o, Steps p.tables e below (s₁.setTop (entryFrame m #[(.int p1), (.int p2), (.int p3)] maxLocals)) s₂ ∧ s₂.status = .running ∧ Ended s₂ below o ∧ ∃ v L, o = .returned v ∧ Q_0 Z p1 p2 p3 h0 n0 v s₂.heap L ∧ FrameEnd s o s₂ L room_1.cells room_1.slots := by
  have hx := Bd.exec
  have hby := Bd.bytes
  have hown : s.vm.findClass "com/example/spanfacet/spanfacet/MsgpackWriterToByteArrayPinLaw" = some m.cls := findClass_of_methodNamed Bd.named
  have hnm := (name_of_methodNamed Bd.named Bd.method).1
  have pre30 : ∀ t, Steps p.tables e below (Tc.setTop (mkF m 102 #[.val (.int p1), .val (.int p2), .val (.int p3), .val (.int (1 : Int32)), .val (.int xv), .val (.int yv), .val (.int vv), .val (.int ea), .val (.int eb), .val (.int ec2), .val (.ref b15), .val (.ref br21), .unset, .unset] [(.int xv), (.ref b15)])) t → Steps p.tables e below (s₁.setTop (entryFrame m #[(.int p1), (.int p2), (.int p3)] maxLocals)) t := fun t k => prec t (by
    show Steps p.tables e below (Tc.setTop (mkF m 93 #[.val (.int p1), .val (.int p2), .val (.int p3), .val (.int (1 : Int32)), .val (.int xv), .val (.int yv), .val (.int vv), .val (.int ea), .val (.int eb), .val (.int ec2), .val (.ref b15), .val (.ref br21), .unset, .unset] [])) _
    refine XS.iloadN Xc.here hx rfl (hb hby at_93) rfl ?_
    show Steps p.tables e below (Tc.setTop (mkF m 94 #[.val (.int p1), .val (.int p2), .val (.int p3), .val (.int (1 : Int32)), .val (.int xv), .val (.int yv), .val (.int vv), .val (.int ea), .val (.int eb), .val (.int ec2), .val (.ref b15), .val (.ref br21), .unset, .unset] [(.int (1 : Int32))])) _
    refine XS.iconst Xc.here hx rfl (hb hby at_94) ?_
    show Steps p.tables e below (Tc.setTop (mkF m 95 #[.val (.int p1), .val (.int p2), .val (.int p3), .val (.int (1 : Int32)), .val (.int xv), .val (.int yv), .val (.int vv), .val (.int ea), .val (.int eb), .val (.int ec2), .val (.ref b15), .val (.ref br21), .unset, .unset] [(.int (1 : Int32)), (.int (1 : Int32))])) _
    refine XS.icmpNo Xc.here hx rfl (hb hby at_95) rfl (XT.ii_lt_f (by decide)) ?_
    show Steps p.tables e below (Tc.setTop (mkF m 98 #[.val (.int p1), .val (.int p2), .val (.int p3), .val (.int (1 : Int32)), .val (.int xv), .val (.int yv), .val (.int vv), .val (.int ea), .val (.int eb), .val (.int ec2), .val (.ref b15), .val (.ref br21), .unset, .unset] [])) _
    refine XS.aload Xc.here hx rfl (hb hby at_98) rfl rfl ?_
    show Steps p.tables e below (Tc.setTop (mkF m 100 #[.val (.int p1), .val (.int p2), .val (.int p3), .val (.int (1 : Int32)), .val (.int xv), .val (.int yv), .val (.int vv), .val (.int ea), .val (.int eb), .val (.int ec2), .val (.ref b15), .val (.ref br21), .unset, .unset] [(.ref b15)])) _
    refine XS.iload Xc.here hx rfl (hb hby at_100) rfl ?_
    show Steps p.tables e below (Tc.setTop (mkF m 102 #[.val (.int p1), .val (.int p2), .val (.int p3), .val (.int (1 : Int32)), .val (.int xv), .val (.int yv), .val (.int vv), .val (.int ea), .val (.int eb), .val (.int ec2), .val (.ref b15), .val (.ref br21), .unset, .unset] [(.int xv), (.ref b15)])) _
    exact k)
  obtain ⟨cq31, kq31, q31a, q31b, q31c⟩ := isOf hZ ec fc3_0
  obtain ⟨_, _, ⟨T31, L31, kk31, nn31⟩, -, X31, ⟨Lc31, hQ31, l31, y31, z31⟩, st31⟩ := Xc.virtualBack hx (y := (⟨"com/example/spanfacet/spanfacet/MsgpackWriter", "bool", "(Z)V"⟩ : MethodName)) (z := (⟨"com/example/spanfacet/spanfacet/MsgpackWriter", "bool", "(Z)V"⟩ : MethodName)) hown (mvT hZ (hw _ (List.mem_of_getElem? (i := 31) rfl))) (mvT hZ (hw _ (List.mem_of_getElem? (i := 32) rfl))) (notFace_of_selects (args := #[]) (mvT hZ (hw _ (List.mem_of_getElem? (i := 34) rfl)))) (mvT hZ (hw _ (List.mem_of_getElem? (i := 34) rfl))) (mvT hZ (hw _ (List.mem_of_getElem? (i := 33) rfl))) (by decide) (backOf (W := 0) (rm_bl l Z a0 hw [] b15 bb xv ea (0 : Int32) (1 : Int32) kb [] hhc n0 Zc fc3_0 fc3_1 fc3_2 fc3_3 (show (0 : Int32) = Int32.ofNat 0 from by decide) (show 0 ≤ 2 from by decide) (by decide) g_b15 g_bb ne_b15_bb h_ea) hZ (hw _ (List.mem_of_getElem? (i := 35) rfl)) (hw _ (List.mem_of_getElem? (i := 2) rfl)) (by decide) (by decide)) q31a q31c (g := (mkF m 102 #[.val (.int p1), .val (.int p2), .val (.int p3), .val (.int (1 : Int32)), .val (.int xv), .val (.int yv), .val (.int vv), .val (.int ea), .val (.int eb), .val (.int ec2), .val (.ref b15), .val (.ref br21), .unset, .unset] [(.int xv), (.ref b15)])) rfl (by rw [hml]; rfl) (Steps.refl _) (argsL := [(.int xv)]) (rest := []) (lenOf pd__Z_V rfl) rfl (by show 2 * 0 + _ ≤ _; exact Nat.le_of_eq rfl) (hb hby at_102) (fun _ _ => ⟨rfl, ec, (by decide : 3 + 0 ≤ _), (by decide : 517 + 0 ≤ _)⟩)
  dsimp only [Pt.U, Pt.locs, Pt.cells, Pt.slots] at X31 l31 y31 z31 st31 hQ31
  subst l31 y31 z31
  obtain ⟨rfl, N31q, Kc31, Fb31, Fz31, Va31⟩ := hQ31
  have N31 := Fr.app Nc N31q
  have f32_0 := fc3_0.keep Kc31
  have Z31 : n0 ≤ T31.heap.size := Nat.le_trans Zc Kc31.1
  have e31 : T31.heap = T31.heap := rfl
  have Vb31 : Arv Z T31.heap bb kb .byte (512 : Int32) [(.int ea)] (.int (0 : Int32)) := Va31
  have pre33 : ∀ t, Steps p.tables e below (T31.setTop (mkF m 107 #[.val (.int p1), .val (.int p2), .val (.int p3), .val (.int (1 : Int32)), .val (.int xv), .val (.int yv), .val (.int vv), .val (.int ea), .val (.int eb), .val (.int ec2), .val (.ref b15), .val (.ref br21), .unset, .unset] [(.ref b15)])) t → Steps p.tables e below (s₁.setTop (entryFrame m #[(.int p1), (.int p2), (.int p3)] maxLocals)) t := fun t k => pre30 t (by
    show Steps p.tables e below (Tc.setTop (mkF m 102 #[.val (.int p1), .val (.int p2), .val (.int p3), .val (.int (1 : Int32)), .val (.int xv), .val (.int yv), .val (.int vv), .val (.int ea), .val (.int eb), .val (.int ec2), .val (.ref b15), .val (.ref br21), .unset, .unset] [(.int xv), (.ref b15)])) _
    refine st31.trans ?_
    show Steps p.tables e below (T31.setTop (mkF m 105 #[.val (.int p1), .val (.int p2), .val (.int p3), .val (.int (1 : Int32)), .val (.int xv), .val (.int yv), .val (.int vv), .val (.int ea), .val (.int eb), .val (.int ec2), .val (.ref b15), .val (.ref br21), .unset, .unset] [])) _
    refine XS.aload X31.here hx rfl (hb hby at_105) rfl rfl ?_
    show Steps p.tables e below (T31.setTop (mkF m 107 #[.val (.int p1), .val (.int p2), .val (.int p3), .val (.int (1 : Int32)), .val (.int xv), .val (.int yv), .val (.int vv), .val (.int ea), .val (.int eb), .val (.int ec2), .val (.ref b15), .val (.ref br21), .unset, .unset] [(.ref b15)])) _
    exact k)
  obtain ⟨cq34, kq34, q34a, q34b, q34c⟩ := isOf hZ e31 f32_0
  obtain ⟨_, _, ⟨T34, L34, kk34, nn34⟩, -, X34, ⟨Lc34, hQ34, l34, y34, z34⟩, st34⟩ := X31.virtualBack hx (y := (⟨"com/example/spanfacet/spanfacet/MsgpackWriter", "toByteArray", "()[B"⟩ : MethodName)) (z := (⟨"com/example/spanfacet/spanfacet/MsgpackWriter", "toByteArray", "()[B"⟩ : MethodName)) hown (mvT hZ (hw _ (List.mem_of_getElem? (i := 12) rfl))) (mvT hZ (hw _ (List.mem_of_getElem? (i := 13) rfl))) (notFace_of_selects (args := #[]) (mvT hZ (hw _ (List.mem_of_getElem? (i := 15) rfl)))) (mvT hZ (hw _ (List.mem_of_getElem? (i := 15) rfl))) (mvT hZ (hw _ (List.mem_of_getElem? (i := 14) rfl))) (by decide) (backOf (W := 0) (rm_tba l Z a0 hw [] b15 bb (1 : Int32) kb [(.int ea)] T31.heap n0 Z31 Fb31 Fz31 Vb31 (show (1 : Int32) = Int32.ofNat 1 from by decide) (show 1 ≤ 3 from by decide)) hZ (hw _ (List.mem_of_getElem? (i := 16) rfl)) (hw _ (List.mem_of_getElem? (i := 2) rfl)) (by decide) (by decide)) q34a q34c (g := (mkF m 107 #[.val (.int p1), .val (.int p2), .val (.int p3), .val (.int (1 : Int32)), .val (.int xv), .val (.int yv), .val (.int vv), .val (.int ea), .val (.int eb), .val (.int ec2), .val (.ref b15), .val (.ref br21), .unset, .unset] [(.ref b15)])) rfl (by rw [hml]; rfl) (Steps.refl _) (argsL := []) (rest := []) (lenOf pd____B rfl) rfl (by show 2 * 0 + _ ≤ _; exact Nat.le_of_eq rfl) (hb hby at_107) (fun _ _ => ⟨rfl, e31, (by decide : 3 + 1 ≤ _), (by decide : 517 + 3 ≤ _)⟩)
  dsimp only [Pt.U, Pt.locs, Pt.cells, Pt.slots] at X34 l34 y34 z34 st34 hQ34
  subst l34 y34 z34
  obtain ⟨br34, kr34, rfl, N34q, Kc34, g_br34, sr34, Vr34⟩ := hQ34
  have N34 := Fr.app N31 N34q
  have f35_0 := f32_0.keep Kc34
  have f35_1 := Fb31.keep Kc34 (by simp)
  have f35_2 := Fz31.keep Kc34 (by simp)
  have f35_3 := Vb31.keep Kc34 (by simp)
  have Z34 : n0 ≤ T34.heap.size := Nat.le_trans Z31 Kc34.1
  have e34 : T34.heap = T34.heap := rfl
  have ne_b15_br34 : b15 ≠ br34 := Nat.ne_of_lt (Nat.lt_of_lt_of_le f32_0.lt sr34)
  have ne_bb_br34 : bb ≠ br34 := Nat.ne_of_lt (Nat.lt_of_lt_of_le Vb31.lt sr34)
  obtain ⟨cl36, Ar36, kc36, S36, M36, H36, G36⟩ := id Vr34
  obtain ⟨cl37, Ar37, kc37, S37, M37, H37, G37⟩ := id Vr34
  have hin37 := inb_of S37 (j := (0 : Int32)) (by decide)
  have hat37 : cl37.slots[((0 : Int32)).toNatClampNeg]? = some (.int ea) := H37.at hin37 rfl
  have pre38 : ∀ t, Steps p.tables e below (T34.setTop (mkF m 138 #[.val (.int p1), .val (.int p2), .val (.int p3), .val (.int (1 : Int32)), .val (.int xv), .val (.int yv), .val (.int vv), .val (.int ea), .val (.int eb), .val (.int ec2), .val (.ref b15), .val (.ref br21), .val (.ref br34), .unset] [(.int ((ea ^^^ (1 : Int32)).toInt8.toInt32)), (.int (0 : Int32)), (.ref br34)])) t → Steps p.tables e below (s₁.setTop (entryFrame m #[(.int p1), (.int p2), (.int p3)] maxLocals)) t := fun t k => pre33 t (by
    show Steps p.tables e below (T31.setTop (mkF m 107 #[.val (.int p1), .val (.int p2), .val (.int p3), .val (.int (1 : Int32)), .val (.int xv), .val (.int yv), .val (.int vv), .val (.int ea), .val (.int eb), .val (.int ec2), .val (.ref b15), .val (.ref br21), .unset, .unset] [(.ref b15)])) _
    refine st34.trans ?_
    show Steps p.tables e below (T34.setTop (mkF m 110 #[.val (.int p1), .val (.int p2), .val (.int p3), .val (.int (1 : Int32)), .val (.int xv), .val (.int yv), .val (.int vv), .val (.int ea), .val (.int eb), .val (.int ec2), .val (.ref b15), .val (.ref br21), .unset, .unset] [(.ref br34)])) _
    refine XS.astore X34.here hx rfl (hb hby at_110) rfl rfl (l' := #[.val (.int p1), .val (.int p2), .val (.int p3), .val (.int (1 : Int32)), .val (.int xv), .val (.int yv), .val (.int vv), .val (.int ea), .val (.int eb), .val (.int ec2), .val (.ref b15), .val (.ref br21), .val (.ref br34), .unset]) rfl ?_
    show Steps p.tables e below (T34.setTop (mkF m 112 #[.val (.int p1), .val (.int p2), .val (.int p3), .val (.int (1 : Int32)), .val (.int xv), .val (.int yv), .val (.int vv), .val (.int ea), .val (.int eb), .val (.int ec2), .val (.ref b15), .val (.ref br21), .val (.ref br34), .unset] [])) _
    refine XS.aload X34.here hx rfl (hb hby at_112) rfl rfl ?_
    show Steps p.tables e below (T34.setTop (mkF m 114 #[.val (.int p1), .val (.int p2), .val (.int p3), .val (.int (1 : Int32)), .val (.int xv), .val (.int yv), .val (.int vv), .val (.int ea), .val (.int eb), .val (.int ec2), .val (.ref b15), .val (.ref br21), .val (.ref br34), .unset] [(.ref br34)])) _
    refine X34.arraylength hx (cell := cl36) (by rw [e34]; exact Ar36.1) (State.isArrayOf_alike hZ.alike Ar36.2.1) (g := (mkF m 114 #[.val (.int p1), .val (.int p2), .val (.int p3), .val (.int (1 : Int32)), .val (.int xv), .val (.int yv), .val (.int vv), .val (.int ea), .val (.int eb), .val (.int ec2), .val (.ref b15), .val (.ref br21), .val (.ref br34), .unset] [(.ref br34)])) rfl (rest := []) rfl (hb hby at_114) _ ?_
    rw [len_of S36 M36]
    show Steps p.tables e below (T34.setTop (mkF m 115 #[.val (.int p1), .val (.int p2), .val (.int p3), .val (.int (1 : Int32)), .val (.int xv), .val (.int yv), .val (.int vv), .val (.int ea), .val (.int eb), .val (.int ec2), .val (.ref b15), .val (.ref br21), .val (.ref br34), .unset] [(.int (1 : Int32))])) _
    refine XS.iconst X34.here hx rfl (hb hby at_115) ?_
    show Steps p.tables e below (T34.setTop (mkF m 116 #[.val (.int p1), .val (.int p2), .val (.int p3), .val (.int (1 : Int32)), .val (.int xv), .val (.int yv), .val (.int vv), .val (.int ea), .val (.int eb), .val (.int ec2), .val (.ref b15), .val (.ref br21), .val (.ref br34), .unset] [(.int (1 : Int32)), (.int (1 : Int32))])) _
    refine XS.icmpNo X34.here hx rfl (hb hby at_116) rfl (XT.ii_ne_f rfl) ?_
    show Steps p.tables e below (T34.setTop (mkF m 119 #[.val (.int p1), .val (.int p2), .val (.int p3), .val (.int (1 : Int32)), .val (.int xv), .val (.int yv), .val (.int vv), .val (.int ea), .val (.int eb), .val (.int ec2), .val (.ref b15), .val (.ref br21), .val (.ref br34), .unset] [])) _
    refine XS.aload X34.here hx rfl (hb hby at_119) rfl rfl ?_
    show Steps p.tables e below (T34.setTop (mkF m 121 #[.val (.int p1), .val (.int p2), .val (.int p3), .val (.int (1 : Int32)), .val (.int xv), .val (.int yv), .val (.int vv), .val (.int ea), .val (.int eb), .val (.int ec2), .val (.ref b15), .val (.ref br21), .val (.ref br34), .unset] [(.ref br34)])) _
    refine XS.iconst X34.here hx rfl (hb hby at_121) ?_
    show Steps p.tables e below (T34.setTop (mkF m 122 #[.val (.int p1), .val (.int p2), .val (.int p3), .val (.int (1 : Int32)), .val (.int xv), .val (.int yv), .val (.int vv), .val (.int ea), .val (.int eb), .val (.int ec2), .val (.ref b15), .val (.ref br21), .val (.ref br34), .unset] [(.int (0 : Int32)), (.ref br34)])) _
    refine X34.baloadBytes hx (j := (0 : Int32)) (v := (.int ea)) (by rw [e34]; exact Ar37.1) (State.isArrayOf_alike hZ.alike Ar37.2.1) Ar37.2.2 hin37 hat37 (g := (mkF m 122 #[.val (.int p1), .val (.int p2), .val (.int p3), .val (.int (1 : Int32)), .val (.int xv), .val (.int yv), .val (.int vv), .val (.int ea), .val (.int eb), .val (.int ec2), .val (.ref b15), .val (.ref br21), .val (.ref br34), .unset] [(.int (0 : Int32)), (.ref br34)])) rfl rfl (hb hby at_122) _ ?_
    show Steps p.tables e below (T34.setTop (mkF m 123 #[.val (.int p1), .val (.int p2), .val (.int p3), .val (.int (1 : Int32)), .val (.int xv), .val (.int yv), .val (.int vv), .val (.int ea), .val (.int eb), .val (.int ec2), .val (.ref b15), .val (.ref br21), .val (.ref br34), .unset] [(.int ea)])) _
    refine XS.iload X34.here hx rfl (hb hby at_123) rfl ?_
    show Steps p.tables e below (T34.setTop (mkF m 125 #[.val (.int p1), .val (.int p2), .val (.int p3), .val (.int (1 : Int32)), .val (.int xv), .val (.int yv), .val (.int vv), .val (.int ea), .val (.int eb), .val (.int ec2), .val (.ref b15), .val (.ref br21), .val (.ref br34), .unset] [(.int ea), (.int ea)])) _
    refine XS.icmpYes X34.here hx rfl (pc0 := 125) (pc' := 130) rfl (hb hby at_125) rfl (XT.ii_eq_t rfl) (by decide) (by decide) ?_
    show Steps p.tables e below (T34.setTop (mkF m 130 #[.val (.int p1), .val (.int p2), .val (.int p3), .val (.int (1 : Int32)), .val (.int xv), .val (.int yv), .val (.int vv), .val (.int ea), .val (.int eb), .val (.int ec2), .val (.ref b15), .val (.ref br21), .val (.ref br34), .unset] [])) _
    refine XS.aload X34.here hx rfl (hb hby at_130) rfl rfl ?_
    show Steps p.tables e below (T34.setTop (mkF m 132 #[.val (.int p1), .val (.int p2), .val (.int p3), .val (.int (1 : Int32)), .val (.int xv), .val (.int yv), .val (.int vv), .val (.int ea), .val (.int eb), .val (.int ec2), .val (.ref b15), .val (.ref br21), .val (.ref br34), .unset] [(.ref br34)])) _
    refine XS.iconst X34.here hx rfl (hb hby at_132) ?_
    show Steps p.tables e below (T34.setTop (mkF m 133 #[.val (.int p1), .val (.int p2), .val (.int p3), .val (.int (1 : Int32)), .val (.int xv), .val (.int yv), .val (.int vv), .val (.int ea), .val (.int eb), .val (.int ec2), .val (.ref b15), .val (.ref br21), .val (.ref br34), .unset] [(.int (0 : Int32)), (.ref br34)])) _
    refine XS.iload X34.here hx rfl (hb hby at_133) rfl ?_
    show Steps p.tables e below (T34.setTop (mkF m 135 #[.val (.int p1), .val (.int p2), .val (.int p3), .val (.int (1 : Int32)), .val (.int xv), .val (.int yv), .val (.int vv), .val (.int ea), .val (.int eb), .val (.int ec2), .val (.ref b15), .val (.ref br21), .val (.ref br34), .unset] [(.int ea), (.int (0 : Int32)), (.ref br34)])) _
    refine XS.iconst X34.here hx rfl (hb hby at_135) ?_
    show Steps p.tables e below (T34.setTop (mkF m 136 #[.val (.int p1), .val (.int p2), .val (.int p3), .val (.int (1 : Int32)), .val (.int xv), .val (.int yv), .val (.int vv), .val (.int ea), .val (.int eb), .val (.int ec2), .val (.ref b15), .val (.ref br21), .val (.ref br34), .unset] [(.int (1 : Int32)), (.int ea), (.int (0 : Int32)), (.ref br34)])) _
    refine XT.ixor X34.here hx rfl (hb hby at_136) rfl ?_
    show Steps p.tables e below (T34.setTop (mkF m 137 #[.val (.int p1), .val (.int p2), .val (.int p3), .val (.int (1 : Int32)), .val (.int xv), .val (.int yv), .val (.int vv), .val (.int ea), .val (.int eb), .val (.int ec2), .val (.ref b15), .val (.ref br21), .val (.ref br34), .unset] [(.int (ea ^^^ (1 : Int32))), (.int (0 : Int32)), (.ref br34)])) _
    refine XT.i2b X34.here hx rfl (hb hby at_137) rfl ?_
    show Steps p.tables e below (T34.setTop (mkF m 138 #[.val (.int p1), .val (.int p2), .val (.int p3), .val (.int (1 : Int32)), .val (.int xv), .val (.int yv), .val (.int vv), .val (.int ea), .val (.int eb), .val (.int ec2), .val (.ref b15), .val (.ref br21), .val (.ref br34), .unset] [(.int ((ea ^^^ (1 : Int32)).toInt8.toInt32)), (.int (0 : Int32)), (.ref br34)])) _
    exact k)
  obtain ⟨cl39, Ar39, kc39, S39, M39, H39, G39⟩ := id Vr34
  have hin39 := inb_of S39 (j := (0 : Int32)) (by decide)
  obtain ⟨T39, h39, X39, e39, W39, st39⟩ := stB X34 hx hZ e34 Ar39 (j := (0 : Int32)) hin39 (g := (mkF m 138 #[.val (.int p1), .val (.int p2), .val (.int p3), .val (.int (1 : Int32)), .val (.int xv), .val (.int yv), .val (.int vv), .val (.int ea), .val (.int eb), .val (.int ec2), .val (.ref b15), .val (.ref br21), .val (.ref br34), .unset] [(.int ((ea ^^^ (1 : Int32)).toInt8.toInt32)), (.int (0 : Int32)), (.ref br34)])) rfl rfl (hb hby at_138)
  have V39 : Arv Z h39 br34 kr34 .byte (1 : Int32) [(.int (nar .byte ((ea ^^^ (1 : Int32)).toInt8.toInt32)))] (.int (0 : Int32)) := Arv.set Ar39 kc39 S39 M39 H39 G39 (v := (.int (nar .byte ((ea ^^^ (1 : Int32)).toInt8.toInt32)))) (fits_nar_byte _) W39 0 (by decide) (by simp)
  have N39 := Fr.snoc X39 N34 g_br34
  have f40_0 := f35_0.wr W39
  have f40_1 := f35_1.other W39 (Or.inl ne_b15_br34)
  have f40_2 := f35_2.other W39 (Or.inl ne_b15_br34)
  have f40_3 := f35_3.other W39 ne_bb_br34
  have Z39 : n0 ≤ h39.size := Nat.le_trans Z34 (Keep.of_wr W39).1
  have pre41 : ∀ t, Steps p.tables e below (T39.setTop (mkF m 139 #[.val (.int p1), .val (.int p2), .val (.int p3), .val (.int (1 : Int32)), .val (.int xv), .val (.int yv), .val (.int vv), .val (.int ea), .val (.int eb), .val (.int ec2), .val (.ref b15), .val (.ref br21), .val (.ref br34), .unset] [])) t → Steps p.tables e below (s₁.setTop (entryFrame m #[(.int p1), (.int p2), (.int p3)] maxLocals)) t := fun t k => pre38 t (by
    show Steps p.tables e below (T34.setTop (mkF m 138 #[.val (.int p1), .val (.int p2), .val (.int p3), .val (.int (1 : Int32)), .val (.int xv), .val (.int yv), .val (.int vv), .val (.int ea), .val (.int eb), .val (.int ec2), .val (.ref b15), .val (.ref br21), .val (.ref br34), .unset] [(.int ((ea ^^^ (1 : Int32)).toInt8.toInt32)), (.int (0 : Int32)), (.ref br34)])) _
    refine st39 _ ?_
    show Steps p.tables e below (T39.setTop (mkF m 139 #[.val (.int p1), .val (.int p2), .val (.int p3), .val (.int (1 : Int32)), .val (.int xv), .val (.int yv), .val (.int vv), .val (.int ea), .val (.int eb), .val (.int ec2), .val (.ref b15), .val (.ref br21), .val (.ref br34), .unset] [])) _
    exact k)
  exact rs_0_4 l Z a0 hw ws p1 p2 p3 h0 n0 xv yv vv ea eb ec2 b15 bb kb br21 br34 Bd hZ hml h39 X39 e39 N39 Z39 pre41 f40_0 f40_1 f40_2 f40_3 ne_b15_bb ne_b15_br21 ne_bb_br21 ne_b15_br34 ne_bb_br34 g_b15 g_bb g_br21 g_br34 b_vv h_ea h_eb h_ec2
set_option maxRecDepth 65536 in
set_option maxHeartbeats 40000000 in
theorem rs_0_2 (l : Launch) (Z : State) (a0 : Array Value) (hw : ∀ d ∈ tables_1, d.before a0 Z = true) (ws : List Jvm.Cond) (p1 p2 p3 : Int32) (h0 : Heap) (n0 : Nat) (xv : Int32) (yv : Int32) (vv : Int32) (ea : Int32) (eb : Int32) (ec2 : Int32) (b15 : Addr) (bb : Addr) (kb : ClassId) (br21 : Addr) {p e s m below meth c s₁} (Bd : BodyLoose p l x (head1 (Jvm.Cond.code x code maxLocals ret :: ws) room_1) code maxLocals ret e s m #[(.int p1), (.int p2), (.int p3)] below meth c s₁) (hZ : Z.Warmed39 s.vm) (hml : c.maxLocals = 14) {Tc Lc0} (hhc : Heap) (Xc : Stand p l e room_1 s m #[(.int p1), (.int p2), (.int p3)] below meth c Tc Lc0 3 517) (ec : Tc.heap = hhc) (Nc : Fr n0 Lc0) (Zc : n0 ≤ hhc.size) (prec : ∀ t, Steps p.tables e below (Tc.setTop (mkF m 93 #[.val (.int p1), .val (.int p2), .val (.int p3), .val (.int (0 : Int32)), .val (.int xv), .val (.int yv), .val (.int vv), .val (.int ea), .val (.int eb), .val (.int ec2), .val (.ref b15), .val (.ref br21), .unset, .unset] [])) t → Steps p.tables e below (s₁.setTop (entryFrame m #[(.int p1), (.int p2), (.int p3)] maxLocals)) t) (fc2_0 : Exa Z hhc b15 "com/example/spanfacet/spanfacet/MsgpackWriter") (fc2_1 : Fld Z hhc b15 "com/example/spanfacet/spanfacet/MsgpackWriter" "buffer" "[B" (.ref bb)) (fc2_2 : Fld Z hhc b15 "com/example/spanfacet/spanfacet/MsgpackWriter" "size" "I" (.int (0 : Int32))) (fc2_3 : Arv Z hhc bb kb .byte (512 : Int32) [] (.int (0 : Int32))) (ne_b15_bb : b15 ≠ bb) (ne_b15_br21 : b15 ≠ br21) (ne_bb_br21 : bb ≠ br21) (g_b15 : n0 ≤ b15) (g_bb : n0 ≤ bb) (g_br21 : n0 ≤ br21) (b_vv : ¬ vv.toInt64 < (0 : Int64) ∧ ¬ (127 : Int64) < vv.toInt64) (h_ea : (xv = 0 → ea = (-62 : Int32)) ∧ (¬ xv = 0 → ea = (-61 : Int32))) (h_eb : vv.toInt8.toInt32 = eb) (h_ec2 : (yv = 0 → ec2 = (-62 : Int32)) ∧ (¬ yv = 0 → ec2 = (-61 : Int32))) :
    ∃ s₂ o, Steps p.tables e below (s₁.setTop (entryFrame m #[(.int p1), (.int p2), (.int p3)] maxLocals)) s₂ ∧ s₂.status = .running ∧ Ended s₂ below o ∧ ∃ v L, o = .returned v ∧ Q_0 Z p1 p2 p3 h0 n0 v s₂.heap L ∧ FrameEnd s o s₂ L room_1.cells room_1.slots := by
  have hx := Bd.exec
  have hby := Bd.bytes
  have hown : s.vm.findClass "com/example/spanfacet/spanfacet/MsgpackWriterToByteArrayPinLaw" = some m.cls := findClass_of_methodNamed Bd.named
  have hnm := (name_of_methodNamed Bd.named Bd.method).1
  have pre25 : ∀ t, Steps p.tables e below (Tc.setTop (mkF m 166 #[.val (.int p1), .val (.int p2), .val (.int p3), .val (.int (0 : Int32)), .val (.int xv), .val (.int yv), .val (.int vv), .val (.int ea), .val (.int eb), .val (.int ec2), .val (.ref b15), .val (.ref br21), .unset, .unset] [(.ref b15)])) t → Steps p.tables e below (s₁.setTop (entryFrame m #[(.int p1), (.int p2), (.int p3)] maxLocals)) t := fun t k => prec t (by
    show Steps p.tables e below (Tc.setTop (mkF m 93 #[.val (.int p1), .val (.int p2), .val (.int p3), .val (.int (0 : Int32)), .val (.int xv), .val (.int yv), .val (.int vv), .val (.int ea), .val (.int eb), .val (.int ec2), .val (.ref b15), .val (.ref br21), .unset, .unset] [])) _
    refine XS.iloadN Xc.here hx rfl (hb hby at_93) rfl ?_
    show Steps p.tables e below (Tc.setTop (mkF m 94 #[.val (.int p1), .val (.int p2), .val (.int p3), .val (.int (0 : Int32)), .val (.int xv), .val (.int yv), .val (.int vv), .val (.int ea), .val (.int eb), .val (.int ec2), .val (.ref b15), .val (.ref br21), .unset, .unset] [(.int (0 : Int32))])) _
    refine XS.iconst Xc.here hx rfl (hb hby at_94) ?_
    show Steps p.tables e below (Tc.setTop (mkF m 95 #[.val (.int p1), .val (.int p2), .val (.int p3), .val (.int (0 : Int32)), .val (.int xv), .val (.int yv), .val (.int vv), .val (.int ea), .val (.int eb), .val (.int ec2), .val (.ref b15), .val (.ref br21), .unset, .unset] [(.int (1 : Int32)), (.int (0 : Int32))])) _
    refine XS.icmpYes Xc.here hx rfl (pc0 := 95) (pc' := 139) rfl (hb hby at_95) rfl (XT.ii_lt_t (by decide)) (by decide) (by decide) ?_
    show Steps p.tables e below (Tc.setTop (mkF m 139 #[.val (.int p1), .val (.int p2), .val (.int p3), .val (.int (0 : Int32)), .val (.int xv), .val (.int yv), .val (.int vv), .val (.int ea), .val (.int eb), .val (.int ec2), .val (.ref b15), .val (.ref br21), .unset, .unset] [])) _
    refine XS.iloadN Xc.here hx rfl (hb hby at_139) rfl ?_
    show Steps p.tables e below (Tc.setTop (mkF m 140 #[.val (.int p1), .val (.int p2), .val (.int p3), .val (.int (0 : Int32)), .val (.int xv), .val (.int yv), .val (.int vv), .val (.int ea), .val (.int eb), .val (.int ec2), .val (.ref b15), .val (.ref br21), .unset, .unset] [(.int (0 : Int32))])) _
    refine XS.iconst Xc.here hx rfl (hb hby at_140) ?_
    show Steps p.tables e below (Tc.setTop (mkF m 141 #[.val (.int p1), .val (.int p2), .val (.int p3), .val (.int (0 : Int32)), .val (.int xv), .val (.int yv), .val (.int vv), .val (.int ea), .val (.int eb), .val (.int ec2), .val (.ref b15), .val (.ref br21), .unset, .unset] [(.int (2 : Int32)), (.int (0 : Int32))])) _
    refine XS.icmpYes Xc.here hx rfl (pc0 := 141) (pc' := 152) rfl (hb hby at_141) rfl (XT.ii_lt_t (by decide)) (by decide) (by decide) ?_
    show Steps p.tables e below (Tc.setTop (mkF m 152 #[.val (.int p1), .val (.int p2), .val (.int p3), .val (.int (0 : Int32)), .val (.int xv), .val (.int yv), .val (.int vv), .val (.int ea), .val (.int eb), .val (.int ec2), .val (.ref b15), .val (.ref br21), .unset, .unset] [])) _
    refine XS.iloadN Xc.here hx rfl (hb hby at_152) rfl ?_
    show Steps p.tables e below (Tc.setTop (mkF m 153 #[.val (.int p1), .val (.int p2), .val (.int p3), .val (.int (0 : Int32)), .val (.int xv), .val (.int yv), .val (.int vv), .val (.int ea), .val (.int eb), .val (.int ec2), .val (.ref b15), .val (.ref br21), .unset, .unset] [(.int (0 : Int32))])) _
    refine XS.iconst Xc.here hx rfl (hb hby at_153) ?_
    show Steps p.tables e below (Tc.setTop (mkF m 154 #[.val (.int p1), .val (.int p2), .val (.int p3), .val (.int (0 : Int32)), .val (.int xv), .val (.int yv), .val (.int vv), .val (.int ea), .val (.int eb), .val (.int ec2), .val (.ref b15), .val (.ref br21), .unset, .unset] [(.int (3 : Int32)), (.int (0 : Int32))])) _
    refine XS.icmpYes Xc.here hx rfl (pc0 := 154) (pc' := 164) rfl (hb hby at_154) rfl (XT.ii_lt_t (by decide)) (by decide) (by decide) ?_
    show Steps p.tables e below (Tc.setTop (mkF m 164 #[.val (.int p1), .val (.int p2), .val (.int p3), .val (.int (0 : Int32)), .val (.int xv), .val (.int yv), .val (.int vv), .val (.int ea), .val (.int eb), .val (.int ec2), .val (.ref b15), .val (.ref br21), .unset, .unset] [])) _
    refine XS.aload Xc.here hx rfl (hb hby at_164) rfl rfl ?_
    show Steps p.tables e below (Tc.setTop (mkF m 166 #[.val (.int p1), .val (.int p2), .val (.int p3), .val (.int (0 : Int32)), .val (.int xv), .val (.int yv), .val (.int vv), .val (.int ea), .val (.int eb), .val (.int ec2), .val (.ref b15), .val (.ref br21), .unset, .unset] [(.ref b15)])) _
    exact k)
  obtain ⟨cq26, kq26, q26a, q26b, q26c⟩ := isOf hZ ec fc2_0
  obtain ⟨_, _, ⟨T26, L26, kk26, nn26⟩, -, X26, ⟨Lc26, hQ26, l26, y26, z26⟩, st26⟩ := Xc.virtualBack hx (y := (⟨"com/example/spanfacet/spanfacet/MsgpackWriter", "toByteArray", "()[B"⟩ : MethodName)) (z := (⟨"com/example/spanfacet/spanfacet/MsgpackWriter", "toByteArray", "()[B"⟩ : MethodName)) hown (mvT hZ (hw _ (List.mem_of_getElem? (i := 12) rfl))) (mvT hZ (hw _ (List.mem_of_getElem? (i := 13) rfl))) (notFace_of_selects (args := #[]) (mvT hZ (hw _ (List.mem_of_getElem? (i := 15) rfl)))) (mvT hZ (hw _ (List.mem_of_getElem? (i := 15) rfl))) (mvT hZ (hw _ (List.mem_of_getElem? (i := 14) rfl))) (by decide) (backOf (W := 0) (rm_tba l Z a0 hw [] b15 bb (0 : Int32) kb [] hhc n0 Zc fc2_1 fc2_2 fc2_3 (show (0 : Int32) = Int32.ofNat 0 from by decide) (show 0 ≤ 3 from by decide)) hZ (hw _ (List.mem_of_getElem? (i := 16) rfl)) (hw _ (List.mem_of_getElem? (i := 2) rfl)) (by decide) (by decide)) q26a q26c (g := (mkF m 166 #[.val (.int p1), .val (.int p2), .val (.int p3), .val (.int (0 : Int32)), .val (.int xv), .val (.int yv), .val (.int vv), .val (.int ea), .val (.int eb), .val (.int ec2), .val (.ref b15), .val (.ref br21), .unset, .unset] [(.ref b15)])) rfl (by rw [hml]; rfl) (Steps.refl _) (argsL := []) (rest := []) (lenOf pd____B rfl) rfl (by show 2 * 0 + _ ≤ _; exact Nat.le_of_eq rfl) (hb hby at_166) (fun _ _ => ⟨rfl, ec, (by decide : 3 + 1 ≤ _), (by decide : 517 + 3 ≤ _)⟩)
  dsimp only [Pt.U, Pt.locs, Pt.cells, Pt.slots] at X26 l26 y26 z26 st26 hQ26
  subst l26 y26 z26
  obtain ⟨br26, kr26, rfl, N26q, Kc26, g_br26, sr26, Vr26⟩ := hQ26
  have N26 := Fr.app Nc N26q
  have f27_0 := fc2_0.keep Kc26
  have f27_1 := fc2_1.keep Kc26 (by simp)
  have f27_2 := fc2_2.keep Kc26 (by simp)
  have f27_3 := fc2_3.keep Kc26 (by simp)
  have Z26 : n0 ≤ T26.heap.size := Nat.le_trans Zc Kc26.1
  have e26 : T26.heap = T26.heap := rfl
  have ne_b15_br26 : b15 ≠ br26 := Nat.ne_of_lt (Nat.lt_of_lt_of_le fc2_0.lt sr26)
  have ne_bb_br26 : bb ≠ br26 := Nat.ne_of_lt (Nat.lt_of_lt_of_le fc2_3.lt sr26)
  obtain ⟨cl28, Ar28, kc28, S28, M28, H28, G28⟩ := id Vr26
  have pre29 : ∀ t, Steps p.tables e below (T26.setTop (mkF m 268 #[.val (.int p1), .val (.int p2), .val (.int p3), .val (.int (0 : Int32)), .val (.int xv), .val (.int yv), .val (.int vv), .val (.int ea), .val (.int eb), .val (.int ec2), .val (.ref b15), .val (.ref br21), .val (.ref br26), .unset] [(.int (1 : Int32))])) t → Steps p.tables e below (s₁.setTop (entryFrame m #[(.int p1), (.int p2), (.int p3)] maxLocals)) t := fun t k => pre25 t (by
    show Steps p.tables e below (Tc.setTop (mkF m 166 #[.val (.int p1), .val (.int p2), .val (.int p3), .val (.int (0 : Int32)), .val (.int xv), .val (.int yv), .val (.int vv), .val (.int ea), .val (.int eb), .val (.int ec2), .val (.ref b15), .val (.ref br21), .unset, .unset] [(.ref b15)])) _
    refine st26.trans ?_
    show Steps p.tables e below (T26.setTop (mkF m 169 #[.val (.int p1), .val (.int p2), .val (.int p3), .val (.int (0 : Int32)), .val (.int xv), .val (.int yv), .val (.int vv), .val (.int ea), .val (.int eb), .val (.int ec2), .val (.ref b15), .val (.ref br21), .unset, .unset] [(.ref br26)])) _
    refine XS.astore X26.here hx rfl (hb hby at_169) rfl rfl (l' := #[.val (.int p1), .val (.int p2), .val (.int p3), .val (.int (0 : Int32)), .val (.int xv), .val (.int yv), .val (.int vv), .val (.int ea), .val (.int eb), .val (.int ec2), .val (.ref b15), .val (.ref br21), .val (.ref br26), .unset]) rfl ?_
    show Steps p.tables e below (T26.setTop (mkF m 171 #[.val (.int p1), .val (.int p2), .val (.int p3), .val (.int (0 : Int32)), .val (.int xv), .val (.int yv), .val (.int vv), .val (.int ea), .val (.int eb), .val (.int ec2), .val (.ref b15), .val (.ref br21), .val (.ref br26), .unset] [])) _
    refine XS.aload X26.here hx rfl (hb hby at_171) rfl rfl ?_
    show Steps p.tables e below (T26.setTop (mkF m 173 #[.val (.int p1), .val (.int p2), .val (.int p3), .val (.int (0 : Int32)), .val (.int xv), .val (.int yv), .val (.int vv), .val (.int ea), .val (.int eb), .val (.int ec2), .val (.ref b15), .val (.ref br21), .val (.ref br26), .unset] [(.ref br26)])) _
    refine X26.arraylength hx (cell := cl28) (by rw [e26]; exact Ar28.1) (State.isArrayOf_alike hZ.alike Ar28.2.1) (g := (mkF m 173 #[.val (.int p1), .val (.int p2), .val (.int p3), .val (.int (0 : Int32)), .val (.int xv), .val (.int yv), .val (.int vv), .val (.int ea), .val (.int eb), .val (.int ec2), .val (.ref b15), .val (.ref br21), .val (.ref br26), .unset] [(.ref br26)])) rfl (rest := []) rfl (hb hby at_173) _ ?_
    rw [len_of S28 M28]
    show Steps p.tables e below (T26.setTop (mkF m 174 #[.val (.int p1), .val (.int p2), .val (.int p3), .val (.int (0 : Int32)), .val (.int xv), .val (.int yv), .val (.int vv), .val (.int ea), .val (.int eb), .val (.int ec2), .val (.ref b15), .val (.ref br21), .val (.ref br26), .unset] [(.int (0 : Int32))])) _
    refine XS.iloadN X26.here hx rfl (hb hby at_174) rfl ?_
    show Steps p.tables e below (T26.setTop (mkF m 175 #[.val (.int p1), .val (.int p2), .val (.int p3), .val (.int (0 : Int32)), .val (.int xv), .val (.int yv), .val (.int vv), .val (.int ea), .val (.int eb), .val (.int ec2), .val (.ref b15), .val (.ref br21), .val (.ref br26), .unset] [(.int (0 : Int32)), (.int (0 : Int32))])) _
    refine XS.icmpYes X26.here hx rfl (pc0 := 175) (pc' := 180) rfl (hb hby at_175) rfl (XT.ii_eq_t rfl) (by decide) (by decide) ?_
    show Steps p.tables e below (T26.setTop (mkF m 180 #[.val (.int p1), .val (.int p2), .val (.int p3), .val (.int (0 : Int32)), .val (.int xv), .val (.int yv), .val (.int vv), .val (.int ea), .val (.int eb), .val (.int ec2), .val (.ref b15), .val (.ref br21), .val (.ref br26), .unset] [])) _
    refine XS.iloadN X26.here hx rfl (hb hby at_180) rfl ?_
    show Steps p.tables e below (T26.setTop (mkF m 181 #[.val (.int p1), .val (.int p2), .val (.int p3), .val (.int (0 : Int32)), .val (.int xv), .val (.int yv), .val (.int vv), .val (.int ea), .val (.int eb), .val (.int ec2), .val (.ref b15), .val (.ref br21), .val (.ref br26), .unset] [(.int (0 : Int32))])) _
    refine XS.iconst X26.here hx rfl (hb hby at_181) ?_
    show Steps p.tables e below (T26.setTop (mkF m 182 #[.val (.int p1), .val (.int p2), .val (.int p3), .val (.int (0 : Int32)), .val (.int xv), .val (.int yv), .val (.int vv), .val (.int ea), .val (.int eb), .val (.int ec2), .val (.ref b15), .val (.ref br21), .val (.ref br26), .unset] [(.int (1 : Int32)), (.int (0 : Int32))])) _
    refine XS.icmpYes X26.here hx rfl (pc0 := 182) (pc' := 196) rfl (hb hby at_182) rfl (XT.ii_lt_t (by decide)) (by decide) (by decide) ?_
    show Steps p.tables e below (T26.setTop (mkF m 196 #[.val (.int p1), .val (.int p2), .val (.int p3), .val (.int (0 : Int32)), .val (.int xv), .val (.int yv), .val (.int vv), .val (.int ea), .val (.int eb), .val (.int ec2), .val (.ref b15), .val (.ref br21), .val (.ref br26), .unset] [])) _
    refine XS.iloadN X26.here hx rfl (hb hby at_196) rfl ?_
    show Steps p.tables e below (T26.setTop (mkF m 197 #[.val (.int p1), .val (.int p2), .val (.int p3), .val (.int (0 : Int32)), .val (.int xv), .val (.int yv), .val (.int vv), .val (.int ea), .val (.int eb), .val (.int ec2), .val (.ref b15), .val (.ref br21), .val (.ref br26), .unset] [(.int (0 : Int32))])) _
    refine XS.iconst X26.here hx rfl (hb hby at_197) ?_
    show Steps p.tables e below (T26.setTop (mkF m 198 #[.val (.int p1), .val (.int p2), .val (.int p3), .val (.int (0 : Int32)), .val (.int xv), .val (.int yv), .val (.int vv), .val (.int ea), .val (.int eb), .val (.int ec2), .val (.ref b15), .val (.ref br21), .val (.ref br26), .unset] [(.int (2 : Int32)), (.int (0 : Int32))])) _
    refine XS.icmpYes X26.here hx rfl (pc0 := 198) (pc' := 212) rfl (hb hby at_198) rfl (XT.ii_lt_t (by decide)) (by decide) (by decide) ?_
    show Steps p.tables e below (T26.setTop (mkF m 212 #[.val (.int p1), .val (.int p2), .val (.int p3), .val (.int (0 : Int32)), .val (.int xv), .val (.int yv), .val (.int vv), .val (.int ea), .val (.int eb), .val (.int ec2), .val (.ref b15), .val (.ref br21), .val (.ref br26), .unset] [])) _
    refine XS.iloadN X26.here hx rfl (hb hby at_212) rfl ?_
    show Steps p.tables e below (T26.setTop (mkF m 213 #[.val (.int p1), .val (.int p2), .val (.int p3), .val (.int (0 : Int32)), .val (.int xv), .val (.int yv), .val (.int vv), .val (.int ea), .val (.int eb), .val (.int ec2), .val (.ref b15), .val (.ref br21), .val (.ref br26), .unset] [(.int (0 : Int32))])) _
    refine XS.iconst X26.here hx rfl (hb hby at_213) ?_
    show Steps p.tables e below (T26.setTop (mkF m 214 #[.val (.int p1), .val (.int p2), .val (.int p3), .val (.int (0 : Int32)), .val (.int xv), .val (.int yv), .val (.int vv), .val (.int ea), .val (.int eb), .val (.int ec2), .val (.ref b15), .val (.ref br21), .val (.ref br26), .unset] [(.int (3 : Int32)), (.int (0 : Int32))])) _
    refine XS.icmpYes X26.here hx rfl (pc0 := 214) (pc' := 228) rfl (hb hby at_214) rfl (XT.ii_lt_t (by decide)) (by decide) (by decide) ?_
    show Steps p.tables e below (T26.setTop (mkF m 228 #[.val (.int p1), .val (.int p2), .val (.int p3), .val (.int (0 : Int32)), .val (.int xv), .val (.int yv), .val (.int vv), .val (.int ea), .val (.int eb), .val (.int ec2), .val (.ref b15), .val (.ref br21), .val (.ref br26), .unset] [])) _
    refine XS.iloadN X26.here hx rfl (hb hby at_228) rfl ?_
    show Steps p.tables e below (T26.setTop (mkF m 229 #[.val (.int p1), .val (.int p2), .val (.int p3), .val (.int (0 : Int32)), .val (.int xv), .val (.int yv), .val (.int vv), .val (.int ea), .val (.int eb), .val (.int ec2), .val (.ref b15), .val (.ref br21), .val (.ref br26), .unset] [(.int (0 : Int32))])) _
    refine XS.iconst X26.here hx rfl (hb hby at_229) ?_
    show Steps p.tables e below (T26.setTop (mkF m 230 #[.val (.int p1), .val (.int p2), .val (.int p3), .val (.int (0 : Int32)), .val (.int xv), .val (.int yv), .val (.int vv), .val (.int ea), .val (.int eb), .val (.int ec2), .val (.ref b15), .val (.ref br21), .val (.ref br26), .unset] [(.int (1 : Int32)), (.int (0 : Int32))])) _
    refine XS.icmpYes X26.here hx rfl (pc0 := 230) (pc' := 267) rfl (hb hby at_230) rfl (XT.ii_lt_t (by decide)) (by decide) (by decide) ?_
    show Steps p.tables e below (T26.setTop (mkF m 267 #[.val (.int p1), .val (.int p2), .val (.int p3), .val (.int (0 : Int32)), .val (.int xv), .val (.int yv), .val (.int vv), .val (.int ea), .val (.int eb), .val (.int ec2), .val (.ref b15), .val (.ref br21), .val (.ref br26), .unset] [])) _
    refine XS.iconst X26.here hx rfl (hb hby at_267) ?_
    show Steps p.tables e below (T26.setTop (mkF m 268 #[.val (.int p1), .val (.int p2), .val (.int p3), .val (.int (0 : Int32)), .val (.int xv), .val (.int yv), .val (.int vv), .val (.int ea), .val (.int eb), .val (.int ec2), .val (.ref b15), .val (.ref br21), .val (.ref br26), .unset] [(.int (1 : Int32))])) _
    exact k)
  obtain ⟨fs, hr, hrun, hended, hW, hsame⟩ := X26.leave (v := some (.int (1 : Int32))) (fun h => by rw [Bd.returns] at h; cases h)
  refine ⟨_, _, pre29 _ ?_, hrun, hended, _, _, rfl, ?_, ⟨_, rfl⟩, hW, hsame.mono (by decide) (by decide)⟩
  · exact retN X26 hx (t := .boolean) Bd.returns (by simp) (hb hby at_268) hr
  · show Q_0 Z p1 p2 p3 h0 n0 _ T26.heap _
    skip
    exact ⟨rfl, N26⟩
set_option maxRecDepth 65536 in
set_option maxHeartbeats 40000000 in
theorem rs_0_1 (l : Launch) (Z : State) (a0 : Array Value) (hw : ∀ d ∈ tables_1, d.before a0 Z = true) (ws : List Jvm.Cond) (p1 p2 p3 : Int32) (h0 : Heap) (n0 : Nat) (xv : Int32) (yv : Int32) (vv : Int32) (ea : Int32) (eb : Int32) (ec2 : Int32) (kv : Int32) {p e s m below meth c s₁} (Bd : BodyLoose p l x (head1 (Jvm.Cond.code x code maxLocals ret :: ws) room_1) code maxLocals ret e s m #[(.int p1), (.int p2), (.int p3)] below meth c s₁) (hZ : Z.Warmed39 s.vm) (hml : c.maxLocals = 14) {Tc Lc0} (hhc : Heap) (Xc : Stand p l e room_1 s m #[(.int p1), (.int p2), (.int p3)] below meth c Tc Lc0 0 0) (ec : Tc.heap = hhc) (Nc : Fr n0 Lc0) (Zc : n0 ≤ hhc.size) (prec : ∀ t, Steps p.tables e below (Tc.setTop (mkF m 69 #[.val (.int p1), .val (.int p2), .val (.int p3), .val (.int kv), .val (.int xv), .val (.int yv), .val (.int vv), .val (.int ea), .val (.int eb), .val (.int ec2), .unset, .unset, .unset, .unset] [])) t → Steps p.tables e below (s₁.setTop (entryFrame m #[(.int p1), (.int p2), (.int p3)] maxLocals)) t) (b_vv : ¬ vv.toInt64 < (0 : Int64) ∧ ¬ (127 : Int64) < vv.toInt64) (h_ea : (xv = 0 → ea = (-62 : Int32)) ∧ (¬ xv = 0 → ea = (-61 : Int32))) (h_eb : vv.toInt8.toInt32 = eb) (h_ec2 : (yv = 0 → ec2 = (-62 : Int32)) ∧ (¬ yv = 0 → ec2 = (-61 : Int32))) (b_kv : kv = 0 ∨ kv = 1 ∨ kv = 2 ∨ kv = 3) :
    ∃ s₂ o, Steps p.tables e below (s₁.setTop (entryFrame m #[(.int p1), (.int p2), (.int p3)] maxLocals)) s₂ ∧ s₂.status = .running ∧ Ended s₂ below o ∧ ∃ v L, o = .returned v ∧ Q_0 Z p1 p2 p3 h0 n0 v s₂.heap L ∧ FrameEnd s o s₂ L room_1.cells room_1.slots := by
  have hx := Bd.exec
  have hby := Bd.bytes
  have hown : s.vm.findClass "com/example/spanfacet/spanfacet/MsgpackWriterToByteArrayPinLaw" = some m.cls := findClass_of_methodNamed Bd.named
  have hnm := (name_of_methodNamed Bd.named Bd.method).1
  obtain ⟨T15, h15, X15, e15, E15, A15, D15, -, st15⟩ := newO Xc hx hZ hown (hw _ (List.mem_of_getElem? (i := 0) rfl)) (hw _ (List.mem_of_getElem? (i := 1) rfl)) (hw _ (List.mem_of_getElem? (i := 2) rfl)) ec (g := (mkF m 69 #[.val (.int p1), .val (.int p2), .val (.int p3), .val (.int kv), .val (.int xv), .val (.int yv), .val (.int vv), .val (.int ea), .val (.int eb), .val (.int ec2), .unset, .unset, .unset, .unset] [])) rfl (hb hby at_69) (by decide) (by decide)
  obtain ⟨b15, g15⟩ : ∃ z, z = hhc.size := ⟨_, rfl⟩
  rw [← g15] at A15 D15 st15
  have g_b15 : n0 ≤ b15 := Nat.le_trans Zc (Nat.le_of_eq g15.symm)
  have Z15 : n0 ≤ h15.size := Nat.le_trans Zc E15.1
  have F15_buffer : Fld Z h15 b15 "com/example/spanfacet/spanfacet/MsgpackWriter" "buffer" "[B" .null := D15 (Or.inl (hw _ (List.mem_of_getElem? (i := 11) rfl))) (ty := (.array .byte)) (by decide)
  have F15_size : Fld Z h15 b15 "com/example/spanfacet/spanfacet/MsgpackWriter" "size" "I" (.int (0 : Int32)) := D15 (Or.inl (hw _ (List.mem_of_getElem? (i := 18) rfl))) (ty := .int) (by decide)
  have pre17 : ∀ t, Steps p.tables e below (T15.setTop (mkF m 73 #[.val (.int p1), .val (.int p2), .val (.int p3), .val (.int kv), .val (.int xv), .val (.int yv), .val (.int vv), .val (.int ea), .val (.int eb), .val (.int ec2), .unset, .unset, .unset, .unset] [(.ref b15), (.ref b15)])) t → Steps p.tables e below (s₁.setTop (entryFrame m #[(.int p1), (.int p2), (.int p3)] maxLocals)) t := fun t k => prec t (by
    show Steps p.tables e below (Tc.setTop (mkF m 69 #[.val (.int p1), .val (.int p2), .val (.int p3), .val (.int kv), .val (.int xv), .val (.int yv), .val (.int vv), .val (.int ea), .val (.int eb), .val (.int ec2), .unset, .unset, .unset, .unset] [])) _
    refine st15 _ ?_
    show Steps p.tables e below (T15.setTop (mkF m 72 #[.val (.int p1), .val (.int p2), .val (.int p3), .val (.int kv), .val (.int xv), .val (.int yv), .val (.int vv), .val (.int ea), .val (.int eb), .val (.int ec2), .unset, .unset, .unset, .unset] [(.ref b15)])) _
    refine XS.dup X15.here hx rfl (hb hby at_72) rfl rfl ?_
    show Steps p.tables e below (T15.setTop (mkF m 73 #[.val (.int p1), .val (.int p2), .val (.int p3), .val (.int kv), .val (.int xv), .val (.int yv), .val (.int vv), .val (.int ea), .val (.int eb), .val (.int ec2), .unset, .unset, .unset, .unset] [(.ref b15), (.ref b15)])) _
    exact k)
  obtain ⟨_, _, ⟨T18, L18, kk18, nn18⟩, -, X18, ⟨Lc18, hQ18, l18, y18, z18⟩, st18⟩ := X15.specialBack hx (y := (⟨"com/example/spanfacet/spanfacet/MsgpackWriter", "<init>", "()V"⟩ : MethodName)) rfl hown (mvT hZ (hw _ (List.mem_of_getElem? (i := 3) rfl))) (mvT hZ (hw _ (List.mem_of_getElem? (i := 4) rfl))) (mvT hZ (hw _ (List.mem_of_getElem? (i := 5) rfl))) (by decide) (backOf (W := 1) (rm_ini l Z a0 hw [] b15 _ h15 n0 Z15 A15 F15_buffer F15_size g_b15) hZ (hw _ (List.mem_of_getElem? (i := 5) rfl)) (hw _ (List.mem_of_getElem? (i := 2) rfl)) (by decide) (by decide)) (g := (mkF m 73 #[.val (.int p1), .val (.int p2), .val (.int p3), .val (.int kv), .val (.int xv), .val (.int yv), .val (.int vv), .val (.int ea), .val (.int eb), .val (.int ec2), .unset, .unset, .unset, .unset] [(.ref b15), (.ref b15)])) rfl (by rw [hml]; rfl) (Steps.refl _) (a := b15) (argsL := []) (rest := [(.ref b15)]) (lenOf pd___V rfl) rfl (by show 2 * 0 + _ ≤ _; exact Nat.le_of_eq rfl) (hb hby at_73) (fun _ _ => ⟨rfl, e15, (by decide : 1 + 1 ≤ _), (by decide : 2 + 512 ≤ _)⟩)
  dsimp only [Pt.U, Pt.locs, Pt.cells, Pt.slots] at X18 l18 y18 z18 st18 hQ18
  subst l18 y18 z18
  obtain ⟨bb, kb, rfl, N18q, Kc18, g_bb, sr18, Fb18, Fz18, Va18⟩ := hQ18
  have N18 := Fr.app Nc N18q
  have f19_0 := A15.keep Kc18
  have Z18 : n0 ≤ T18.heap.size := Nat.le_trans Z15 Kc18.1
  have e18 : T18.heap = T18.heap := rfl
  have ne_b15_bb : b15 ≠ bb := Nat.ne_of_lt (Nat.lt_of_lt_of_le A15.lt sr18)
  have pre20 : ∀ t, Steps p.tables e below (T18.setTop (mkF m 80 #[.val (.int p1), .val (.int p2), .val (.int p3), .val (.int kv), .val (.int xv), .val (.int yv), .val (.int vv), .val (.int ea), .val (.int eb), .val (.int ec2), .val (.ref b15), .unset, .unset, .unset] [(.ref b15)])) t → Steps p.tables e below (s₁.setTop (entryFrame m #[(.int p1), (.int p2), (.int p3)] maxLocals)) t := fun t k => pre17 t (by
    show Steps p.tables e below (T15.setTop (mkF m 73 #[.val (.int p1), .val (.int p2), .val (.int p3), .val (.int kv), .val (.int xv), .val (.int yv), .val (.int vv), .val (.int ea), .val (.int eb), .val (.int ec2), .unset, .unset, .unset, .unset] [(.ref b15), (.ref b15)])) _
    refine st18.trans ?_
    show Steps p.tables e below (T18.setTop (mkF m 76 #[.val (.int p1), .val (.int p2), .val (.int p3), .val (.int kv), .val (.int xv), .val (.int yv), .val (.int vv), .val (.int ea), .val (.int eb), .val (.int ec2), .unset, .unset, .unset, .unset] [(.ref b15)])) _
    refine XS.astore X18.here hx rfl (hb hby at_76) rfl rfl (l' := #[.val (.int p1), .val (.int p2), .val (.int p3), .val (.int kv), .val (.int xv), .val (.int yv), .val (.int vv), .val (.int ea), .val (.int eb), .val (.int ec2), .val (.ref b15), .unset, .unset, .unset]) rfl ?_
    show Steps p.tables e below (T18.setTop (mkF m 78 #[.val (.int p1), .val (.int p2), .val (.int p3), .val (.int kv), .val (.int xv), .val (.int yv), .val (.int vv), .val (.int ea), .val (.int eb), .val (.int ec2), .val (.ref b15), .unset, .unset, .unset] [])) _
    refine XS.aload X18.here hx rfl (hb hby at_78) rfl rfl ?_
    show Steps p.tables e below (T18.setTop (mkF m 80 #[.val (.int p1), .val (.int p2), .val (.int p3), .val (.int kv), .val (.int xv), .val (.int yv), .val (.int vv), .val (.int ea), .val (.int eb), .val (.int ec2), .val (.ref b15), .unset, .unset, .unset] [(.ref b15)])) _
    exact k)
  obtain ⟨cq21, kq21, q21a, q21b, q21c⟩ := isOf hZ e18 f19_0
  obtain ⟨_, _, ⟨T21, L21, kk21, nn21⟩, -, X21, ⟨Lc21, hQ21, l21, y21, z21⟩, st21⟩ := X18.virtualBack hx (y := (⟨"com/example/spanfacet/spanfacet/MsgpackWriter", "toByteArray", "()[B"⟩ : MethodName)) (z := (⟨"com/example/spanfacet/spanfacet/MsgpackWriter", "toByteArray", "()[B"⟩ : MethodName)) hown (mvT hZ (hw _ (List.mem_of_getElem? (i := 12) rfl))) (mvT hZ (hw _ (List.mem_of_getElem? (i := 13) rfl))) (notFace_of_selects (args := #[]) (mvT hZ (hw _ (List.mem_of_getElem? (i := 15) rfl)))) (mvT hZ (hw _ (List.mem_of_getElem? (i := 15) rfl))) (mvT hZ (hw _ (List.mem_of_getElem? (i := 14) rfl))) (by decide) (backOf (W := 0) (rm_tba l Z a0 hw [] b15 bb (0 : Int32) kb [] T18.heap n0 Z18 Fb18 Fz18 Va18 (show (0 : Int32) = Int32.ofNat 0 from by decide) (show 0 ≤ 3 from by decide)) hZ (hw _ (List.mem_of_getElem? (i := 16) rfl)) (hw _ (List.mem_of_getElem? (i := 2) rfl)) (by decide) (by decide)) q21a q21c (g := (mkF m 80 #[.val (.int p1), .val (.int p2), .val (.int p3), .val (.int kv), .val (.int xv), .val (.int yv), .val (.int vv), .val (.int ea), .val (.int eb), .val (.int ec2), .val (.ref b15), .unset, .unset, .unset] [(.ref b15)])) rfl (by rw [hml]; rfl) (Steps.refl _) (argsL := []) (rest := []) (lenOf pd____B rfl) rfl (by show 2 * 0 + _ ≤ _; exact Nat.le_of_eq rfl) (hb hby at_80) (fun _ _ => ⟨rfl, e18, (by decide : 2 + 1 ≤ _), (by decide : 514 + 3 ≤ _)⟩)
  dsimp only [Pt.U, Pt.locs, Pt.cells, Pt.slots] at X21 l21 y21 z21 st21 hQ21
  subst l21 y21 z21
  obtain ⟨br21, kr21, rfl, N21q, Kc21, g_br21, sr21, Vr21⟩ := hQ21
  have N21 := Fr.app N18 N21q
  have f22_0 := f19_0.keep Kc21
  have f22_1 := Fb18.keep Kc21 (by simp)
  have f22_2 := Fz18.keep Kc21 (by simp)
  have f22_3 := Va18.keep Kc21 (by simp)
  have Z21 : n0 ≤ T21.heap.size := Nat.le_trans Z18 Kc21.1
  have e21 : T21.heap = T21.heap := rfl
  have ne_b15_br21 : b15 ≠ br21 := Nat.ne_of_lt (Nat.lt_of_lt_of_le f19_0.lt sr21)
  have ne_bb_br21 : bb ≠ br21 := Nat.ne_of_lt (Nat.lt_of_lt_of_le Va18.lt sr21)
  obtain ⟨cl23, Ar23, kc23, S23, M23, H23, G23⟩ := id Vr21
  have pre24 : ∀ t, Steps p.tables e below (T21.setTop (mkF m 93 #[.val (.int p1), .val (.int p2), .val (.int p3), .val (.int kv), .val (.int xv), .val (.int yv), .val (.int vv), .val (.int ea), .val (.int eb), .val (.int ec2), .val (.ref b15), .val (.ref br21), .unset, .unset] [])) t → Steps p.tables e below (s₁.setTop (entryFrame m #[(.int p1), (.int p2), (.int p3)] maxLocals)) t := fun t k => pre20 t (by
    show Steps p.tables e below (T18.setTop (mkF m 80 #[.val (.int p1), .val (.int p2), .val (.int p3), .val (.int kv), .val (.int xv), .val (.int yv), .val (.int vv), .val (.int ea), .val (.int eb), .val (.int ec2), .val (.ref b15), .unset, .unset, .unset] [(.ref b15)])) _
    refine st21.trans ?_
    show Steps p.tables e below (T21.setTop (mkF m 83 #[.val (.int p1), .val (.int p2), .val (.int p3), .val (.int kv), .val (.int xv), .val (.int yv), .val (.int vv), .val (.int ea), .val (.int eb), .val (.int ec2), .val (.ref b15), .unset, .unset, .unset] [(.ref br21)])) _
    refine XS.astore X21.here hx rfl (hb hby at_83) rfl rfl (l' := #[.val (.int p1), .val (.int p2), .val (.int p3), .val (.int kv), .val (.int xv), .val (.int yv), .val (.int vv), .val (.int ea), .val (.int eb), .val (.int ec2), .val (.ref b15), .val (.ref br21), .unset, .unset]) rfl ?_
    show Steps p.tables e below (T21.setTop (mkF m 85 #[.val (.int p1), .val (.int p2), .val (.int p3), .val (.int kv), .val (.int xv), .val (.int yv), .val (.int vv), .val (.int ea), .val (.int eb), .val (.int ec2), .val (.ref b15), .val (.ref br21), .unset, .unset] [])) _
    refine XS.aload X21.here hx rfl (hb hby at_85) rfl rfl ?_
    show Steps p.tables e below (T21.setTop (mkF m 87 #[.val (.int p1), .val (.int p2), .val (.int p3), .val (.int kv), .val (.int xv), .val (.int yv), .val (.int vv), .val (.int ea), .val (.int eb), .val (.int ec2), .val (.ref b15), .val (.ref br21), .unset, .unset] [(.ref br21)])) _
    refine X21.arraylength hx (cell := cl23) (by rw [e21]; exact Ar23.1) (State.isArrayOf_alike hZ.alike Ar23.2.1) (g := (mkF m 87 #[.val (.int p1), .val (.int p2), .val (.int p3), .val (.int kv), .val (.int xv), .val (.int yv), .val (.int vv), .val (.int ea), .val (.int eb), .val (.int ec2), .val (.ref b15), .val (.ref br21), .unset, .unset] [(.ref br21)])) rfl (rest := []) rfl (hb hby at_87) _ ?_
    rw [len_of S23 M23]
    show Steps p.tables e below (T21.setTop (mkF m 88 #[.val (.int p1), .val (.int p2), .val (.int p3), .val (.int kv), .val (.int xv), .val (.int yv), .val (.int vv), .val (.int ea), .val (.int eb), .val (.int ec2), .val (.ref b15), .val (.ref br21), .unset, .unset] [(.int (0 : Int32))])) _
    refine XS.ifYes X21.here hx rfl (pc0 := 88) (pc' := 93) rfl (hb hby at_88) rfl (XT.i0_eq_t rfl) (by decide) (by decide) ?_
    show Steps p.tables e below (T21.setTop (mkF m 93 #[.val (.int p1), .val (.int p2), .val (.int p3), .val (.int kv), .val (.int xv), .val (.int yv), .val (.int vv), .val (.int ea), .val (.int eb), .val (.int ec2), .val (.ref b15), .val (.ref br21), .unset, .unset] [])) _
    exact k)
  rcases b_kv with b_kv | b_kv | b_kv | b_kv
  · skip
    subst b_kv
    exact rs_0_2 l Z a0 hw ws p1 p2 p3 h0 n0 xv yv vv ea eb ec2 b15 bb kb br21 Bd hZ hml T21.heap X21 e21 N21 Z21 pre24 f22_0 f22_1 f22_2 f22_3 ne_b15_bb ne_b15_br21 ne_bb_br21 g_b15 g_bb g_br21 b_vv h_ea h_eb h_ec2
  · skip
    subst b_kv
    exact rs_0_3 l Z a0 hw ws p1 p2 p3 h0 n0 xv yv vv ea eb ec2 b15 bb kb br21 Bd hZ hml T21.heap X21 e21 N21 Z21 pre24 f22_0 f22_1 f22_2 f22_3 ne_b15_bb ne_b15_br21 ne_bb_br21 g_b15 g_bb g_br21 b_vv h_ea h_eb h_ec2
  · skip
    subst b_kv
    exact rs_0_6 l Z a0 hw ws p1 p2 p3 h0 n0 xv yv vv ea eb ec2 b15 bb kb br21 Bd hZ hml T21.heap X21 e21 N21 Z21 pre24 f22_0 f22_1 f22_2 f22_3 ne_b15_bb ne_b15_br21 ne_bb_br21 g_b15 g_bb g_br21 b_vv h_ea h_eb h_ec2
  · skip
    subst b_kv
    exact rs_0_9 l Z a0 hw ws p1 p2 p3 h0 n0 xv yv vv ea eb ec2 b15 bb kb br21 Bd hZ hml T21.heap X21 e21 N21 Z21 pre24 f22_0 f22_1 f22_2 f22_3 ne_b15_bb ne_b15_br21 ne_bb_br21 g_b15 g_bb g_br21 b_vv h_ea h_eb h_ec2
set_option maxRecDepth 65536 in
set_option maxHeartbeats 40000000 in
theorem rm_0 (l : Launch) (Z : State) (a0 : Array Value) (hw : ∀ d ∈ tables_1, d.before a0 Z = true) (ws : List Jvm.Cond) (p1 p2 p3 : Int32) (h0 : Heap) (n0 : Nat) (Z0 : n0 ≤ h0.size)  :
    MetFree l x (head1 (Jvm.Cond.code x code maxLocals ret :: ws) room_1) (fun a U => a = #[(.int p1), (.int p2), (.int p3)] ∧ Z.Warmed39 U.vm ∧ U.heap = h0) (fun _ _ _ _ _ => True) (fun _ U o U' => ∃ v L, o = .returned v ∧ Q_0 Z p1 p2 p3 h0 n0 v U'.heap L ∧ FrameEnd U o U' L room_1.cells room_1.slots) := by
  refine MetFree.of_bodySF (plainFor_of_name pn_0) hisR ?_
  intro p e s m args below meth c s₁ Bd hml0 hP hK
  obtain ⟨rfl, hZ, hh⟩ := hP
  have hx := Bd.exec
  have hby := Bd.bytes
  have hml : c.maxLocals = 14 := hml0
  have hown : s.vm.findClass "com/example/spanfacet/spanfacet/MsgpackWriterToByteArrayPinLaw" = some m.cls := findClass_of_methodNamed Bd.named
  have hnm := (name_of_methodNamed Bd.named Bd.method).1
  have X0 : Stand p l e room_1 s m #[(.int p1), (.int p2), (.int p3)] below meth c s₁ [] 0 0 := Stand.of_body Bd
  have e0 : s₁.heap = h0 := by rw [← hh, Bd.state]; rfl
  have N0 := Fr.nil n0
  have pre0 : ∀ t, Steps p.tables e below (s₁.setTop (mkF m 0 #[.val (.int p1), .val (.int p2), .val (.int p3), .unset, .unset, .unset, .unset, .unset, .unset, .unset, .unset, .unset, .unset, .unset] [])) t → Steps p.tables e below (s₁.setTop (entryFrame m #[(.int p1), (.int p2), (.int p3)] maxLocals)) t := fun t k => castTop (ef_0 m p1 p2 p3) k
  obtain ⟨kv, h_kv, b_kv⟩ : ∃ z : Int32, (p1 &&& (3 : Int32)) = z ∧ (z = 0 ∨ z = 1 ∨ z = 2 ∨ z = 3) := ⟨_, rfl, own_k3 p1⟩
  have pre2 : ∀ t, Steps p.tables e below (s₁.setTop (mkF m 7 #[.val (.int p1), .val (.int p2), .val (.int p3), .val (.int kv), .unset, .unset, .unset, .unset, .unset, .unset, .unset, .unset, .unset, .unset] [(.int (p2 &&& (1 : Int32)))])) t → Steps p.tables e below (s₁.setTop (entryFrame m #[(.int p1), (.int p2), (.int p3)] maxLocals)) t := fun t k => pre0 t (by
    show Steps p.tables e below (s₁.setTop (mkF m 0 #[.val (.int p1), .val (.int p2), .val (.int p3), .unset, .unset, .unset, .unset, .unset, .unset, .unset, .unset, .unset, .unset, .unset] [])) _
    refine XS.iloadN X0.here hx rfl (hb hby at_0) rfl ?_
    show Steps p.tables e below (s₁.setTop (mkF m 1 #[.val (.int p1), .val (.int p2), .val (.int p3), .unset, .unset, .unset, .unset, .unset, .unset, .unset, .unset, .unset, .unset, .unset] [(.int p1)])) _
    refine XS.iconst X0.here hx rfl (hb hby at_1) ?_
    show Steps p.tables e below (s₁.setTop (mkF m 2 #[.val (.int p1), .val (.int p2), .val (.int p3), .unset, .unset, .unset, .unset, .unset, .unset, .unset, .unset, .unset, .unset, .unset] [(.int (3 : Int32)), (.int p1)])) _
    refine XS.iand X0.here hx rfl (hb hby at_2) rfl ?_
    show Steps p.tables e below (s₁.setTop (mkF m 3 #[.val (.int p1), .val (.int p2), .val (.int p3), .unset, .unset, .unset, .unset, .unset, .unset, .unset, .unset, .unset, .unset, .unset] [(.int (p1 &&& (3 : Int32)))])) _
    rw [h_kv]
    show Steps p.tables e below (s₁.setTop (mkF m 3 #[.val (.int p1), .val (.int p2), .val (.int p3), .unset, .unset, .unset, .unset, .unset, .unset, .unset, .unset, .unset, .unset, .unset] [(.int kv)])) _
    refine XS.istoreN X0.here hx rfl (hb hby at_3) rfl (l' := #[.val (.int p1), .val (.int p2), .val (.int p3), .val (.int kv), .unset, .unset, .unset, .unset, .unset, .unset, .unset, .unset, .unset, .unset]) rfl ?_
    show Steps p.tables e below (s₁.setTop (mkF m 4 #[.val (.int p1), .val (.int p2), .val (.int p3), .val (.int kv), .unset, .unset, .unset, .unset, .unset, .unset, .unset, .unset, .unset, .unset] [])) _
    refine XS.iloadN X0.here hx rfl (hb hby at_4) rfl ?_
    show Steps p.tables e below (s₁.setTop (mkF m 5 #[.val (.int p1), .val (.int p2), .val (.int p3), .val (.int kv), .unset, .unset, .unset, .unset, .unset, .unset, .unset, .unset, .unset, .unset] [(.int p2)])) _
    refine XS.iconst X0.here hx rfl (hb hby at_5) ?_
    show Steps p.tables e below (s₁.setTop (mkF m 6 #[.val (.int p1), .val (.int p2), .val (.int p3), .val (.int kv), .unset, .unset, .unset, .unset, .unset, .unset, .unset, .unset, .unset, .unset] [(.int (1 : Int32)), (.int p2)])) _
    refine XS.iand X0.here hx rfl (hb hby at_6) rfl ?_
    show Steps p.tables e below (s₁.setTop (mkF m 7 #[.val (.int p1), .val (.int p2), .val (.int p3), .val (.int kv), .unset, .unset, .unset, .unset, .unset, .unset, .unset, .unset, .unset, .unset] [(.int (p2 &&& (1 : Int32)))])) _
    exact k)
  obtain ⟨xv, h_xv, pre_xv⟩ : ∃ z : Int32, (True) ∧ ∀ t, Steps p.tables e below (s₁.setTop (mkF m 15 #[.val (.int p1), .val (.int p2), .val (.int p3), .val (.int kv), .unset, .unset, .unset, .unset, .unset, .unset, .unset, .unset, .unset, .unset] [(.int z)])) t → Steps p.tables e below (s₁.setTop (entryFrame m #[(.int p1), (.int p2), (.int p3)] maxLocals)) t := by
    by_cases hB : (p2 &&& (1 : Int32)) = 0
    · skip
      have pre3 : ∀ t, Steps p.tables e below (s₁.setTop (mkF m 15 #[.val (.int p1), .val (.int p2), .val (.int p3), .val (.int kv), .unset, .unset, .unset, .unset, .unset, .unset, .unset, .unset, .unset, .unset] [(.int (0 : Int32))])) t → Steps p.tables e below (s₁.setTop (entryFrame m #[(.int p1), (.int p2), (.int p3)] maxLocals)) t := fun t k => pre2 t (by
        show Steps p.tables e below (s₁.setTop (mkF m 7 #[.val (.int p1), .val (.int p2), .val (.int p3), .val (.int kv), .unset, .unset, .unset, .unset, .unset, .unset, .unset, .unset, .unset, .unset] [(.int (p2 &&& (1 : Int32)))])) _
        refine XS.ifYes X0.here hx rfl (pc0 := 7) (pc' := 14) rfl (hb hby at_7) rfl (XT.i0_eq_t hB) (by decide) (by decide) ?_
        show Steps p.tables e below (s₁.setTop (mkF m 14 #[.val (.int p1), .val (.int p2), .val (.int p3), .val (.int kv), .unset, .unset, .unset, .unset, .unset, .unset, .unset, .unset, .unset, .unset] [])) _
        refine XS.iconst X0.here hx rfl (hb hby at_14) ?_
        show Steps p.tables e below (s₁.setTop (mkF m 15 #[.val (.int p1), .val (.int p2), .val (.int p3), .val (.int kv), .unset, .unset, .unset, .unset, .unset, .unset, .unset, .unset, .unset, .unset] [(.int (0 : Int32))])) _
        exact k)
      exact ⟨(0 : Int32), trivial, pre3⟩
    · skip
      have pre4 : ∀ t, Steps p.tables e below (s₁.setTop (mkF m 15 #[.val (.int p1), .val (.int p2), .val (.int p3), .val (.int kv), .unset, .unset, .unset, .unset, .unset, .unset, .unset, .unset, .unset, .unset] [(.int (1 : Int32))])) t → Steps p.tables e below (s₁.setTop (entryFrame m #[(.int p1), (.int p2), (.int p3)] maxLocals)) t := fun t k => pre2 t (by
        show Steps p.tables e below (s₁.setTop (mkF m 7 #[.val (.int p1), .val (.int p2), .val (.int p3), .val (.int kv), .unset, .unset, .unset, .unset, .unset, .unset, .unset, .unset, .unset, .unset] [(.int (p2 &&& (1 : Int32)))])) _
        refine XS.ifNo X0.here hx rfl (hb hby at_7) rfl (XT.i0_eq_f hB) ?_
        show Steps p.tables e below (s₁.setTop (mkF m 10 #[.val (.int p1), .val (.int p2), .val (.int p3), .val (.int kv), .unset, .unset, .unset, .unset, .unset, .unset, .unset, .unset, .unset, .unset] [])) _
        refine XS.iconst X0.here hx rfl (hb hby at_10) ?_
        show Steps p.tables e below (s₁.setTop (mkF m 11 #[.val (.int p1), .val (.int p2), .val (.int p3), .val (.int kv), .unset, .unset, .unset, .unset, .unset, .unset, .unset, .unset, .unset, .unset] [(.int (1 : Int32))])) _
        refine XS.goto X0.here hx rfl (pc0 := 11) (pc' := 15) rfl (hb hby at_11) (by decide) (by decide) ?_
        show Steps p.tables e below (s₁.setTop (mkF m 15 #[.val (.int p1), .val (.int p2), .val (.int p3), .val (.int kv), .unset, .unset, .unset, .unset, .unset, .unset, .unset, .unset, .unset, .unset] [(.int (1 : Int32))])) _
        exact k)
      exact ⟨(1 : Int32), trivial, pre4⟩
  have pre5 : ∀ t, Steps p.tables e below (s₁.setTop (mkF m 20 #[.val (.int p1), .val (.int p2), .val (.int p3), .val (.int kv), .val (.int xv), .unset, .unset, .unset, .unset, .unset, .unset, .unset, .unset, .unset] [(.int (p2 &&& (2 : Int32)))])) t → Steps p.tables e below (s₁.setTop (entryFrame m #[(.int p1), (.int p2), (.int p3)] maxLocals)) t := fun t k => pre_xv t (by
    show Steps p.tables e below (s₁.setTop (mkF m 15 #[.val (.int p1), .val (.int p2), .val (.int p3), .val (.int kv), .unset, .unset, .unset, .unset, .unset, .unset, .unset, .unset, .unset, .unset] [(.int xv)])) _
    refine XS.istore X0.here hx rfl (hb hby at_15) rfl (l' := #[.val (.int p1), .val (.int p2), .val (.int p3), .val (.int kv), .val (.int xv), .unset, .unset, .unset, .unset, .unset, .unset, .unset, .unset, .unset]) rfl ?_
    show Steps p.tables e below (s₁.setTop (mkF m 17 #[.val (.int p1), .val (.int p2), .val (.int p3), .val (.int kv), .val (.int xv), .unset, .unset, .unset, .unset, .unset, .unset, .unset, .unset, .unset] [])) _
    refine XS.iloadN X0.here hx rfl (hb hby at_17) rfl ?_
    show Steps p.tables e below (s₁.setTop (mkF m 18 #[.val (.int p1), .val (.int p2), .val (.int p3), .val (.int kv), .val (.int xv), .unset, .unset, .unset, .unset, .unset, .unset, .unset, .unset, .unset] [(.int p2)])) _
    refine XS.iconst X0.here hx rfl (hb hby at_18) ?_
    show Steps p.tables e below (s₁.setTop (mkF m 19 #[.val (.int p1), .val (.int p2), .val (.int p3), .val (.int kv), .val (.int xv), .unset, .unset, .unset, .unset, .unset, .unset, .unset, .unset, .unset] [(.int (2 : Int32)), (.int p2)])) _
    refine XS.iand X0.here hx rfl (hb hby at_19) rfl ?_
    show Steps p.tables e below (s₁.setTop (mkF m 20 #[.val (.int p1), .val (.int p2), .val (.int p3), .val (.int kv), .val (.int xv), .unset, .unset, .unset, .unset, .unset, .unset, .unset, .unset, .unset] [(.int (p2 &&& (2 : Int32)))])) _
    exact k)
  obtain ⟨yv, h_yv, pre_yv⟩ : ∃ z : Int32, (True) ∧ ∀ t, Steps p.tables e below (s₁.setTop (mkF m 28 #[.val (.int p1), .val (.int p2), .val (.int p3), .val (.int kv), .val (.int xv), .unset, .unset, .unset, .unset, .unset, .unset, .unset, .unset, .unset] [(.int z)])) t → Steps p.tables e below (s₁.setTop (entryFrame m #[(.int p1), (.int p2), (.int p3)] maxLocals)) t := by
    by_cases hB : (p2 &&& (2 : Int32)) = 0
    · skip
      have pre6 : ∀ t, Steps p.tables e below (s₁.setTop (mkF m 28 #[.val (.int p1), .val (.int p2), .val (.int p3), .val (.int kv), .val (.int xv), .unset, .unset, .unset, .unset, .unset, .unset, .unset, .unset, .unset] [(.int (0 : Int32))])) t → Steps p.tables e below (s₁.setTop (entryFrame m #[(.int p1), (.int p2), (.int p3)] maxLocals)) t := fun t k => pre5 t (by
        show Steps p.tables e below (s₁.setTop (mkF m 20 #[.val (.int p1), .val (.int p2), .val (.int p3), .val (.int kv), .val (.int xv), .unset, .unset, .unset, .unset, .unset, .unset, .unset, .unset, .unset] [(.int (p2 &&& (2 : Int32)))])) _
        refine XS.ifYes X0.here hx rfl (pc0 := 20) (pc' := 27) rfl (hb hby at_20) rfl (XT.i0_eq_t hB) (by decide) (by decide) ?_
        show Steps p.tables e below (s₁.setTop (mkF m 27 #[.val (.int p1), .val (.int p2), .val (.int p3), .val (.int kv), .val (.int xv), .unset, .unset, .unset, .unset, .unset, .unset, .unset, .unset, .unset] [])) _
        refine XS.iconst X0.here hx rfl (hb hby at_27) ?_
        show Steps p.tables e below (s₁.setTop (mkF m 28 #[.val (.int p1), .val (.int p2), .val (.int p3), .val (.int kv), .val (.int xv), .unset, .unset, .unset, .unset, .unset, .unset, .unset, .unset, .unset] [(.int (0 : Int32))])) _
        exact k)
      exact ⟨(0 : Int32), trivial, pre6⟩
    · skip
      have pre7 : ∀ t, Steps p.tables e below (s₁.setTop (mkF m 28 #[.val (.int p1), .val (.int p2), .val (.int p3), .val (.int kv), .val (.int xv), .unset, .unset, .unset, .unset, .unset, .unset, .unset, .unset, .unset] [(.int (1 : Int32))])) t → Steps p.tables e below (s₁.setTop (entryFrame m #[(.int p1), (.int p2), (.int p3)] maxLocals)) t := fun t k => pre5 t (by
        show Steps p.tables e below (s₁.setTop (mkF m 20 #[.val (.int p1), .val (.int p2), .val (.int p3), .val (.int kv), .val (.int xv), .unset, .unset, .unset, .unset, .unset, .unset, .unset, .unset, .unset] [(.int (p2 &&& (2 : Int32)))])) _
        refine XS.ifNo X0.here hx rfl (hb hby at_20) rfl (XT.i0_eq_f hB) ?_
        show Steps p.tables e below (s₁.setTop (mkF m 23 #[.val (.int p1), .val (.int p2), .val (.int p3), .val (.int kv), .val (.int xv), .unset, .unset, .unset, .unset, .unset, .unset, .unset, .unset, .unset] [])) _
        refine XS.iconst X0.here hx rfl (hb hby at_23) ?_
        show Steps p.tables e below (s₁.setTop (mkF m 24 #[.val (.int p1), .val (.int p2), .val (.int p3), .val (.int kv), .val (.int xv), .unset, .unset, .unset, .unset, .unset, .unset, .unset, .unset, .unset] [(.int (1 : Int32))])) _
        refine XS.goto X0.here hx rfl (pc0 := 24) (pc' := 28) rfl (hb hby at_24) (by decide) (by decide) ?_
        show Steps p.tables e below (s₁.setTop (mkF m 28 #[.val (.int p1), .val (.int p2), .val (.int p3), .val (.int kv), .val (.int xv), .unset, .unset, .unset, .unset, .unset, .unset, .unset, .unset, .unset] [(.int (1 : Int32))])) _
        exact k)
      exact ⟨(1 : Int32), trivial, pre7⟩
  obtain ⟨vv, h_vv, b_vv⟩ : ∃ z : Int32, (p3 &&& (127 : Int32)) = z ∧ (¬ z.toInt64 < (0 : Int64) ∧ ¬ (127 : Int64) < z.toInt64) := ⟨_, rfl, own_v7 p3⟩
  have pre8 : ∀ t, Steps p.tables e below (s₁.setTop (mkF m 38 #[.val (.int p1), .val (.int p2), .val (.int p3), .val (.int kv), .val (.int xv), .val (.int yv), .val (.int vv), .unset, .unset, .unset, .unset, .unset, .unset, .unset] [(.int xv)])) t → Steps p.tables e below (s₁.setTop (entryFrame m #[(.int p1), (.int p2), (.int p3)] maxLocals)) t := fun t k => pre_yv t (by
    show Steps p.tables e below (s₁.setTop (mkF m 28 #[.val (.int p1), .val (.int p2), .val (.int p3), .val (.int kv), .val (.int xv), .unset, .unset, .unset, .unset, .unset, .unset, .unset, .unset, .unset] [(.int yv)])) _
    refine XS.istore X0.here hx rfl (hb hby at_28) rfl (l' := #[.val (.int p1), .val (.int p2), .val (.int p3), .val (.int kv), .val (.int xv), .val (.int yv), .unset, .unset, .unset, .unset, .unset, .unset, .unset, .unset]) rfl ?_
    show Steps p.tables e below (s₁.setTop (mkF m 30 #[.val (.int p1), .val (.int p2), .val (.int p3), .val (.int kv), .val (.int xv), .val (.int yv), .unset, .unset, .unset, .unset, .unset, .unset, .unset, .unset] [])) _
    refine XS.iloadN X0.here hx rfl (hb hby at_30) rfl ?_
    show Steps p.tables e below (s₁.setTop (mkF m 31 #[.val (.int p1), .val (.int p2), .val (.int p3), .val (.int kv), .val (.int xv), .val (.int yv), .unset, .unset, .unset, .unset, .unset, .unset, .unset, .unset] [(.int p3)])) _
    refine XS.bipush X0.here hx rfl (hb hby at_31) ?_
    show Steps p.tables e below (s₁.setTop (mkF m 33 #[.val (.int p1), .val (.int p2), .val (.int p3), .val (.int kv), .val (.int xv), .val (.int yv), .unset, .unset, .unset, .unset, .unset, .unset, .unset, .unset] [(.int (127 : Int32)), (.int p3)])) _
    refine XS.iand X0.here hx rfl (hb hby at_33) rfl ?_
    show Steps p.tables e below (s₁.setTop (mkF m 34 #[.val (.int p1), .val (.int p2), .val (.int p3), .val (.int kv), .val (.int xv), .val (.int yv), .unset, .unset, .unset, .unset, .unset, .unset, .unset, .unset] [(.int (p3 &&& (127 : Int32)))])) _
    rw [h_vv]
    show Steps p.tables e below (s₁.setTop (mkF m 34 #[.val (.int p1), .val (.int p2), .val (.int p3), .val (.int kv), .val (.int xv), .val (.int yv), .unset, .unset, .unset, .unset, .unset, .unset, .unset, .unset] [(.int vv)])) _
    refine XS.istore X0.here hx rfl (hb hby at_34) rfl (l' := #[.val (.int p1), .val (.int p2), .val (.int p3), .val (.int kv), .val (.int xv), .val (.int yv), .val (.int vv), .unset, .unset, .unset, .unset, .unset, .unset, .unset]) rfl ?_
    show Steps p.tables e below (s₁.setTop (mkF m 36 #[.val (.int p1), .val (.int p2), .val (.int p3), .val (.int kv), .val (.int xv), .val (.int yv), .val (.int vv), .unset, .unset, .unset, .unset, .unset, .unset, .unset] [])) _
    refine XS.iload X0.here hx rfl (hb hby at_36) rfl ?_
    show Steps p.tables e below (s₁.setTop (mkF m 38 #[.val (.int p1), .val (.int p2), .val (.int p3), .val (.int kv), .val (.int xv), .val (.int yv), .val (.int vv), .unset, .unset, .unset, .unset, .unset, .unset, .unset] [(.int xv)])) _
    exact k)
  obtain ⟨ea, h_ea, pre_ea⟩ : ∃ z : Int32, ((xv = 0 → z = (-62 : Int32)) ∧ (¬ xv = 0 → z = (-61 : Int32))) ∧ ∀ t, Steps p.tables e below (s₁.setTop (mkF m 48 #[.val (.int p1), .val (.int p2), .val (.int p3), .val (.int kv), .val (.int xv), .val (.int yv), .val (.int vv), .unset, .unset, .unset, .unset, .unset, .unset, .unset] [(.int z)])) t → Steps p.tables e below (s₁.setTop (entryFrame m #[(.int p1), (.int p2), (.int p3)] maxLocals)) t := by
    by_cases hB : xv = 0
    · skip
      have pre9 : ∀ t, Steps p.tables e below (s₁.setTop (mkF m 48 #[.val (.int p1), .val (.int p2), .val (.int p3), .val (.int kv), .val (.int xv), .val (.int yv), .val (.int vv), .unset, .unset, .unset, .unset, .unset, .unset, .unset] [(.int (-62 : Int32))])) t → Steps p.tables e below (s₁.setTop (entryFrame m #[(.int p1), (.int p2), (.int p3)] maxLocals)) t := fun t k => pre8 t (by
        show Steps p.tables e below (s₁.setTop (mkF m 38 #[.val (.int p1), .val (.int p2), .val (.int p3), .val (.int kv), .val (.int xv), .val (.int yv), .val (.int vv), .unset, .unset, .unset, .unset, .unset, .unset, .unset] [(.int xv)])) _
        refine XS.ifYes X0.here hx rfl (pc0 := 38) (pc' := 46) rfl (hb hby at_38) rfl (XT.i0_eq_t hB) (by decide) (by decide) ?_
        show Steps p.tables e below (s₁.setTop (mkF m 46 #[.val (.int p1), .val (.int p2), .val (.int p3), .val (.int kv), .val (.int xv), .val (.int yv), .val (.int vv), .unset, .unset, .unset, .unset, .unset, .unset, .unset] [])) _
        refine XS.bipush X0.here hx rfl (hb hby at_46) ?_
        show Steps p.tables e below (s₁.setTop (mkF m 48 #[.val (.int p1), .val (.int p2), .val (.int p3), .val (.int kv), .val (.int xv), .val (.int yv), .val (.int vv), .unset, .unset, .unset, .unset, .unset, .unset, .unset] [(.int (-62 : Int32))])) _
        exact k)
      exact ⟨(-62 : Int32), ⟨fun _ => rfl, fun q => absurd hB q⟩, pre9⟩
    · skip
      have pre10 : ∀ t, Steps p.tables e below (s₁.setTop (mkF m 48 #[.val (.int p1), .val (.int p2), .val (.int p3), .val (.int kv), .val (.int xv), .val (.int yv), .val (.int vv), .unset, .unset, .unset, .unset, .unset, .unset, .unset] [(.int (-61 : Int32))])) t → Steps p.tables e below (s₁.setTop (entryFrame m #[(.int p1), (.int p2), (.int p3)] maxLocals)) t := fun t k => pre8 t (by
        show Steps p.tables e below (s₁.setTop (mkF m 38 #[.val (.int p1), .val (.int p2), .val (.int p3), .val (.int kv), .val (.int xv), .val (.int yv), .val (.int vv), .unset, .unset, .unset, .unset, .unset, .unset, .unset] [(.int xv)])) _
        refine XS.ifNo X0.here hx rfl (hb hby at_38) rfl (XT.i0_eq_f hB) ?_
        show Steps p.tables e below (s₁.setTop (mkF m 41 #[.val (.int p1), .val (.int p2), .val (.int p3), .val (.int kv), .val (.int xv), .val (.int yv), .val (.int vv), .unset, .unset, .unset, .unset, .unset, .unset, .unset] [])) _
        refine XS.bipush X0.here hx rfl (hb hby at_41) ?_
        show Steps p.tables e below (s₁.setTop (mkF m 43 #[.val (.int p1), .val (.int p2), .val (.int p3), .val (.int kv), .val (.int xv), .val (.int yv), .val (.int vv), .unset, .unset, .unset, .unset, .unset, .unset, .unset] [(.int (-61 : Int32))])) _
        refine XS.goto X0.here hx rfl (pc0 := 43) (pc' := 48) rfl (hb hby at_43) (by decide) (by decide) ?_
        show Steps p.tables e below (s₁.setTop (mkF m 48 #[.val (.int p1), .val (.int p2), .val (.int p3), .val (.int kv), .val (.int xv), .val (.int yv), .val (.int vv), .unset, .unset, .unset, .unset, .unset, .unset, .unset] [(.int (-61 : Int32))])) _
        exact k)
      exact ⟨(-61 : Int32), ⟨fun q => absurd q hB, fun _ => rfl⟩, pre10⟩
  obtain ⟨eb, h_eb⟩ : ∃ z : Int32, (vv.toInt8.toInt32) = z := ⟨_, rfl⟩
  have pre11 : ∀ t, Steps p.tables e below (s₁.setTop (mkF m 57 #[.val (.int p1), .val (.int p2), .val (.int p3), .val (.int kv), .val (.int xv), .val (.int yv), .val (.int vv), .val (.int ea), .val (.int eb), .unset, .unset, .unset, .unset, .unset] [(.int yv)])) t → Steps p.tables e below (s₁.setTop (entryFrame m #[(.int p1), (.int p2), (.int p3)] maxLocals)) t := fun t k => pre_ea t (by
    show Steps p.tables e below (s₁.setTop (mkF m 48 #[.val (.int p1), .val (.int p2), .val (.int p3), .val (.int kv), .val (.int xv), .val (.int yv), .val (.int vv), .unset, .unset, .unset, .unset, .unset, .unset, .unset] [(.int ea)])) _
    refine XS.istore X0.here hx rfl (hb hby at_48) rfl (l' := #[.val (.int p1), .val (.int p2), .val (.int p3), .val (.int kv), .val (.int xv), .val (.int yv), .val (.int vv), .val (.int ea), .unset, .unset, .unset, .unset, .unset, .unset]) rfl ?_
    show Steps p.tables e below (s₁.setTop (mkF m 50 #[.val (.int p1), .val (.int p2), .val (.int p3), .val (.int kv), .val (.int xv), .val (.int yv), .val (.int vv), .val (.int ea), .unset, .unset, .unset, .unset, .unset, .unset] [])) _
    refine XS.iload X0.here hx rfl (hb hby at_50) rfl ?_
    show Steps p.tables e below (s₁.setTop (mkF m 52 #[.val (.int p1), .val (.int p2), .val (.int p3), .val (.int kv), .val (.int xv), .val (.int yv), .val (.int vv), .val (.int ea), .unset, .unset, .unset, .unset, .unset, .unset] [(.int vv)])) _
    refine XT.i2b X0.here hx rfl (hb hby at_52) rfl ?_
    show Steps p.tables e below (s₁.setTop (mkF m 53 #[.val (.int p1), .val (.int p2), .val (.int p3), .val (.int kv), .val (.int xv), .val (.int yv), .val (.int vv), .val (.int ea), .unset, .unset, .unset, .unset, .unset, .unset] [(.int (vv.toInt8.toInt32))])) _
    rw [h_eb]
    show Steps p.tables e below (s₁.setTop (mkF m 53 #[.val (.int p1), .val (.int p2), .val (.int p3), .val (.int kv), .val (.int xv), .val (.int yv), .val (.int vv), .val (.int ea), .unset, .unset, .unset, .unset, .unset, .unset] [(.int eb)])) _
    refine XS.istore X0.here hx rfl (hb hby at_53) rfl (l' := #[.val (.int p1), .val (.int p2), .val (.int p3), .val (.int kv), .val (.int xv), .val (.int yv), .val (.int vv), .val (.int ea), .val (.int eb), .unset, .unset, .unset, .unset, .unset]) rfl ?_
    show Steps p.tables e below (s₁.setTop (mkF m 55 #[.val (.int p1), .val (.int p2), .val (.int p3), .val (.int kv), .val (.int xv), .val (.int yv), .val (.int vv), .val (.int ea), .val (.int eb), .unset, .unset, .unset, .unset, .unset] [])) _
    refine XS.iload X0.here hx rfl (hb hby at_55) rfl ?_
    show Steps p.tables e below (s₁.setTop (mkF m 57 #[.val (.int p1), .val (.int p2), .val (.int p3), .val (.int kv), .val (.int xv), .val (.int yv), .val (.int vv), .val (.int ea), .val (.int eb), .unset, .unset, .unset, .unset, .unset] [(.int yv)])) _
    exact k)
  obtain ⟨ec2, h_ec2, pre_ec2⟩ : ∃ z : Int32, ((yv = 0 → z = (-62 : Int32)) ∧ (¬ yv = 0 → z = (-61 : Int32))) ∧ ∀ t, Steps p.tables e below (s₁.setTop (mkF m 67 #[.val (.int p1), .val (.int p2), .val (.int p3), .val (.int kv), .val (.int xv), .val (.int yv), .val (.int vv), .val (.int ea), .val (.int eb), .unset, .unset, .unset, .unset, .unset] [(.int z)])) t → Steps p.tables e below (s₁.setTop (entryFrame m #[(.int p1), (.int p2), (.int p3)] maxLocals)) t := by
    by_cases hB : yv = 0
    · skip
      have pre12 : ∀ t, Steps p.tables e below (s₁.setTop (mkF m 67 #[.val (.int p1), .val (.int p2), .val (.int p3), .val (.int kv), .val (.int xv), .val (.int yv), .val (.int vv), .val (.int ea), .val (.int eb), .unset, .unset, .unset, .unset, .unset] [(.int (-62 : Int32))])) t → Steps p.tables e below (s₁.setTop (entryFrame m #[(.int p1), (.int p2), (.int p3)] maxLocals)) t := fun t k => pre11 t (by
        show Steps p.tables e below (s₁.setTop (mkF m 57 #[.val (.int p1), .val (.int p2), .val (.int p3), .val (.int kv), .val (.int xv), .val (.int yv), .val (.int vv), .val (.int ea), .val (.int eb), .unset, .unset, .unset, .unset, .unset] [(.int yv)])) _
        refine XS.ifYes X0.here hx rfl (pc0 := 57) (pc' := 65) rfl (hb hby at_57) rfl (XT.i0_eq_t hB) (by decide) (by decide) ?_
        show Steps p.tables e below (s₁.setTop (mkF m 65 #[.val (.int p1), .val (.int p2), .val (.int p3), .val (.int kv), .val (.int xv), .val (.int yv), .val (.int vv), .val (.int ea), .val (.int eb), .unset, .unset, .unset, .unset, .unset] [])) _
        refine XS.bipush X0.here hx rfl (hb hby at_65) ?_
        show Steps p.tables e below (s₁.setTop (mkF m 67 #[.val (.int p1), .val (.int p2), .val (.int p3), .val (.int kv), .val (.int xv), .val (.int yv), .val (.int vv), .val (.int ea), .val (.int eb), .unset, .unset, .unset, .unset, .unset] [(.int (-62 : Int32))])) _
        exact k)
      exact ⟨(-62 : Int32), ⟨fun _ => rfl, fun q => absurd hB q⟩, pre12⟩
    · skip
      have pre13 : ∀ t, Steps p.tables e below (s₁.setTop (mkF m 67 #[.val (.int p1), .val (.int p2), .val (.int p3), .val (.int kv), .val (.int xv), .val (.int yv), .val (.int vv), .val (.int ea), .val (.int eb), .unset, .unset, .unset, .unset, .unset] [(.int (-61 : Int32))])) t → Steps p.tables e below (s₁.setTop (entryFrame m #[(.int p1), (.int p2), (.int p3)] maxLocals)) t := fun t k => pre11 t (by
        show Steps p.tables e below (s₁.setTop (mkF m 57 #[.val (.int p1), .val (.int p2), .val (.int p3), .val (.int kv), .val (.int xv), .val (.int yv), .val (.int vv), .val (.int ea), .val (.int eb), .unset, .unset, .unset, .unset, .unset] [(.int yv)])) _
        refine XS.ifNo X0.here hx rfl (hb hby at_57) rfl (XT.i0_eq_f hB) ?_
        show Steps p.tables e below (s₁.setTop (mkF m 60 #[.val (.int p1), .val (.int p2), .val (.int p3), .val (.int kv), .val (.int xv), .val (.int yv), .val (.int vv), .val (.int ea), .val (.int eb), .unset, .unset, .unset, .unset, .unset] [])) _
        refine XS.bipush X0.here hx rfl (hb hby at_60) ?_
        show Steps p.tables e below (s₁.setTop (mkF m 62 #[.val (.int p1), .val (.int p2), .val (.int p3), .val (.int kv), .val (.int xv), .val (.int yv), .val (.int vv), .val (.int ea), .val (.int eb), .unset, .unset, .unset, .unset, .unset] [(.int (-61 : Int32))])) _
        refine XS.goto X0.here hx rfl (pc0 := 62) (pc' := 67) rfl (hb hby at_62) (by decide) (by decide) ?_
        show Steps p.tables e below (s₁.setTop (mkF m 67 #[.val (.int p1), .val (.int p2), .val (.int p3), .val (.int kv), .val (.int xv), .val (.int yv), .val (.int vv), .val (.int ea), .val (.int eb), .unset, .unset, .unset, .unset, .unset] [(.int (-61 : Int32))])) _
        exact k)
      exact ⟨(-61 : Int32), ⟨fun q => absurd q hB, fun _ => rfl⟩, pre13⟩
  have pre14 : ∀ t, Steps p.tables e below (s₁.setTop (mkF m 69 #[.val (.int p1), .val (.int p2), .val (.int p3), .val (.int kv), .val (.int xv), .val (.int yv), .val (.int vv), .val (.int ea), .val (.int eb), .val (.int ec2), .unset, .unset, .unset, .unset] [])) t → Steps p.tables e below (s₁.setTop (entryFrame m #[(.int p1), (.int p2), (.int p3)] maxLocals)) t := fun t k => pre_ec2 t (by
    show Steps p.tables e below (s₁.setTop (mkF m 67 #[.val (.int p1), .val (.int p2), .val (.int p3), .val (.int kv), .val (.int xv), .val (.int yv), .val (.int vv), .val (.int ea), .val (.int eb), .unset, .unset, .unset, .unset, .unset] [(.int ec2)])) _
    refine XS.istore X0.here hx rfl (hb hby at_67) rfl (l' := #[.val (.int p1), .val (.int p2), .val (.int p3), .val (.int kv), .val (.int xv), .val (.int yv), .val (.int vv), .val (.int ea), .val (.int eb), .val (.int ec2), .unset, .unset, .unset, .unset]) rfl ?_
    show Steps p.tables e below (s₁.setTop (mkF m 69 #[.val (.int p1), .val (.int p2), .val (.int p3), .val (.int kv), .val (.int xv), .val (.int yv), .val (.int vv), .val (.int ea), .val (.int eb), .val (.int ec2), .unset, .unset, .unset, .unset] [])) _
    exact k)
  exact rs_0_1 l Z a0 hw ws p1 p2 p3 h0 n0 xv yv vv ea eb ec2 kv Bd hZ hml h0 X0 e0 N0 Z0 pre14 b_vv h_ea h_eb h_ec2 b_kv
set_option maxRecDepth 65536 in
set_option maxHeartbeats 40000000 in
theorem comes_1 {Post : Tables → Env → Array Value → State → Outcome → State → Prop} (hpost : ∀ tb e args s v u, (limb_1_1.after args s (.returned v) u = true ∧ limb_1_2.after args s (.returned v) u = true ∧ True) → FrameEnd s (.returned v) u (Jvm.fieldLocs frame_1_writes args s ++ Jvm.arrayLocs frame_1_arrays args s ++ Jvm.staticLocs frame_1_statics s) 24 1152 → Post tb e args s (.returned v) u) :
    ArmFor flags0 classFile x code maxLocals ret World_1 tables_1 room_1 Calls_1 rest_1 Pre_1 Post := by
  intro l hfl _ _ p e ha hc hk s m args below hf hA hF happ hP
  obtain ⟨hcalls, hrest, hpre⟩ := hP
  obtain ⟨-, -, -, hnamed, -, -, -, hat⟩ := (Spec.applies_iff hf).mp happ
  obtain ⟨hg, hn⟩ := and_e (Cond.before_iff.mp (show (Jvm.Cond.and given_1 narrow_1).before args s = true from hpre))
  obtain ⟨gc, hg⟩ := and_e hg
  obtain ⟨gi0, hg⟩ := and_e hg
  obtain ⟨gi1, hg⟩ := and_e hg
  have gi2 := hg
  obtain ⟨w0, w1, w2, rfl⟩ : ∃ w0 w1 w2 : Value, args = #[w0, w1, w2] := by
    have hs : args.size = 3 := by simpa [Cond.value, given_1] using gc
    obtain ⟨L⟩ := args
    match L, hs with
    | [w0, w1, w2], _ => exact ⟨w0, w1, w2, rfl⟩
  have hw := fun d (hd : d ∈ tables_1) => atoms_spec (ws := Jvm.Cond.code x code maxLocals ret :: tables_1) hat d (List.mem_cons_of_mem _ hd)
  have hfit : Fit s := fun {y c} hc i hi => by
    obtain ⟨ha, rfl⟩ := Array.getElem?_eq_some_iff.mp hc
    have q := List.all_eq_true.mp ((Array.all_eq_true_iff_forall_mem.mp hF) _ (Array.getElem_mem ha)) i (List.mem_range.mpr hi)
    simpa [Array.getElem?_eq_getElem hi] using q
  obtain ⟨i0, ei0⟩ := is_v gi0
  obtain rfl : w0 = (.int i0) := Option.some.inj ei0
  obtain ⟨i1, ei1⟩ := is_v gi1
  obtain rfl : w1 = (.int i1) := Option.some.inj ei1
  obtain ⟨i2, ei2⟩ := is_v gi2
  obtain rfl : w2 = (.int i2) := Option.some.inj ei2
  obtain ⟨n, o, h1, h2, h3, _, L, rfl, ⟨rfl, N⟩, hq⟩ := rm_0 l s _ hw tables_1 i0 i1 i2  s.heap s.heap.size (Nat.le_refl _)  p e ha hc hk s m _ below hf ((Spec.applies_iff_loose hf).mp happ).1 ⟨rfl, State.Warmed39.refl s, rfl⟩ trivial
  refine ⟨n, _, h1, h2, h3, hpost _ _ _ _ _ _ ⟨Cond.after_iff.mpr rfl, Cond.after_iff.mpr (eq_i res_at (Term.int_eval (1)) rfl), trivial⟩ ⟨hq.1, hq.2.1, (hq.2.2.sift fun y hy => Or.inr (N y hy)).mono (by decide) (by decide)⟩⟩
theorem main_1_1 : Claimed_1_1 := comes_1 fun _ _ _ _ _ _ h hF => ⟨h.1, hF⟩
theorem main_1_2 : Claimed_1_2 := comes_1 fun _ _ _ _ _ _ h hF => ⟨h.2.1, hF⟩
end Jvm.Pilot.@@N@@
namespace Jvm.Pilot.@@N@@
open Jvm Jvm.ClassFile Sem Op Lib Jvm.Free Jvm.Stand Jvm.Pilot.@@N@@.Jvm.D
/-! MADE BY PROGRAM (witnessworld.py) out of the Statement's table words and the real class files: 12 classes; the members and pool entries that the words name. The judged class is class 1, her method 1. -/
namespace start1
open Jvm.ClassFile
def u (s : String) : CpInfo := .utf8 (stringToUtf16 s)
/-- a pool by its gaps: so many unusable entries, then the entry; so many at the end -/
def gap : Nat → List CpInfo → List CpInfo
  | 0, r => r
  | n + 1, r => .unusable :: gap n r
def poolList (es : List (Nat × CpInfo)) (last : Nat) : List CpInfo := es.foldr (fun e r => gap e.1 (e.2 :: r)) (gap last [])
def pool (es : List (Nat × CpInfo)) (last : Nat) : Array CpInfo := ⟨poolList es last⟩
def fileOf (pool : Array CpInfo) (this : Nat) (attrs : Array Attribute := #[]) (ms : Array MethodInfo := #[]) (fl : Nat := 33) (sup : Nat := 0) (ifs : Array Nat := #[]) (fds : Array FieldInfo := #[]) : ClassFile where
  minorVersion := 0
  majorVersion := 65
  constantPool := pool
  accessFlags := fl
  thisClass := this
  superClass := sup
  interfaces := ifs
  fields := fds
  methods := ms
  attributes := attrs
def plain (name : String) (sup : Option ClassId) : Class where
  name := name
  kind := .ordinary
  loader := none
  accessFlags := 33
  super := sup
  interfaces := #[]
  cf := none
  fields := #[]
  methods := #[]
  instanceTypes := #[]
  staticTypes := #[]
  resolved := #[]
  callSites := []
  init := .initialized
  statics := none
  mirror := none

def pool0 : Array CpInfo := pool [(5, u "<init>"), (0, u "()V"), (1, .class_ 10), (1, u "java/lang/Object")] 113

def k0c0 : Code := { maxStack := 0, maxLocals := 1, code := object_method_1_code, exceptionTable := #[], attributes := #[] }
def k0m0 : Method := { name := "<init>", desc := "()V", sig := { parameters := [], returnType := none }, accessFlags := 1, code := some k0c0 }
/-- java/lang/Object -/
def k0 : Class := { plain "java/lang/Object" none with
  accessFlags := 33
  interfaces := #[]
  cf := some (fileOf pool0 8 #[] #[{ accessFlags := 1, nameIndex := 5, descriptorIndex := 6, attributes := #[] }] 33 0 #[] #[])
  fields := #[]
  methods := #[k0m0]
  instanceTypes := #[]
  staticTypes := #[]
  resolved := Array.replicate 124 none
  statics := none }

def pool1 : Array CpInfo := pool [(2, .class_ 4), (0, .nameAndType 5 6), (0, u "java/lang/Object"), (0, u "<init>"), (0, u "()V"), (0, .class_ 8), (0, u "com/example/spanfacet/spanfacet/MsgpackWriter"), (0, .methodref 7 3), (0, .methodref 7 11), (0, .nameAndType 12 13), (0, u "toByteArray"), (0, u "()[B"), (0, .methodref 7 15), (0, .nameAndType 16 17), (0, u "bool"), (0, u "(Z)V"), (0, .methodref 7 19), (0, .nameAndType 20 21), (0, u "integer"), (0, u "(J)V"), (0, .class_ 23), (0, u "com/example/spanfacet/spanfacet/MsgpackWriterToByteArrayPinLaw"), (2, u "law"), (0, u "(III)Z")] 5

def k1m0 : Method := { name := "<init>", desc := "()V", sig := { parameters := [], returnType := none }, accessFlags := 1, code := none }
def k1c1 : Code := { maxStack := 4, maxLocals := 14, code := code, exceptionTable := #[], attributes := #[] }
def k1m1 : Method := { name := "law", desc := "(III)Z", sig := { parameters := [.int, .int, .int], returnType := some .boolean }, accessFlags := 9, code := some k1c1 }
/-- com/example/spanfacet/spanfacet/MsgpackWriterToByteArrayPinLaw -/
def k1 : Class := { plain "com/example/spanfacet/spanfacet/MsgpackWriterToByteArrayPinLaw" (some 0) with
  accessFlags := 49
  interfaces := #[]
  cf := some (fileOf pool1 22 #[] #[{ accessFlags := 1, nameIndex := 5, descriptorIndex := 6, attributes := #[] }, { accessFlags := 9, nameIndex := 26, descriptorIndex := 27, attributes := #[] }] 49 2 #[] #[])
  fields := #[]
  methods := #[k1m0, k1m1]
  instanceTypes := #[]
  staticTypes := #[]
  resolved := Array.replicate 33 none
  statics := none }

def pool2 : Array CpInfo := pool [(1, .methodref 2 3), (0, .class_ 4), (0, .nameAndType 5 6), (0, u "java/lang/Object"), (0, u "<init>"), (0, u "()V"), (0, .fieldref 8 9), (0, .class_ 10), (0, .nameAndType 11 12), (0, u "com/example/spanfacet/spanfacet/MsgpackWriter"), (0, u "buffer"), (0, u "[B"), (16, .methodref 8 30), (0, .nameAndType 31 32), (0, u "byte1"), (0, u "(I)V"), (7, .long 127), (1, .long 255), (1, .long 65535), (4, .long 4294967295), (7, u "(J)V"), (0, .long 18446744073709551584), (3, .long 18446744073709551488), (3, .long 18446744073709518848), (3, .long 18446744071562067968), (1, .fieldref 8 73), (0, .nameAndType 74 75), (0, u "size"), (0, u "I"), (0, .methodref 77 78), (0, .class_ 79), (0, .nameAndType 80 81), (0, u "java/util/Arrays"), (0, u "copyOf"), (0, u "([BI)[B"), (1, .methodref 8 84), (0, .nameAndType 85 32), (0, u "ensure"), (21, u "integer"), (0, u "bool"), (0, u "(Z)V"), (0, u "toByteArray"), (0, u "()[B")] 2

def k2c0 : Code := { maxStack := 2, maxLocals := 1, code := prog_13_method_1_code, exceptionTable := #[], attributes := #[] }
def k2m0 : Method := { name := "<init>", desc := "()V", sig := { parameters := [], returnType := none }, accessFlags := 0, code := some k2c0 }
def k2c1 : Code := { maxStack := 4, maxLocals := 3, code := prog_13_method_6_code, exceptionTable := #[], attributes := #[] }
def k2m1 : Method := { name := "integer", desc := "(J)V", sig := { parameters := [.long], returnType := none }, accessFlags := 0, code := some k2c1 }
def k2c2 : Code := { maxStack := 2, maxLocals := 2, code := prog_13_method_7_code, exceptionTable := #[], attributes := #[] }
def k2m2 : Method := { name := "bool", desc := "(Z)V", sig := { parameters := [.boolean], returnType := none }, accessFlags := 0, code := some k2c2 }
def k2c3 : Code := { maxStack := 2, maxLocals := 1, code := prog_13_method_8_code, exceptionTable := #[], attributes := #[] }
def k2m3 : Method := { name := "toByteArray", desc := "()[B", sig := { parameters := [], returnType := some (.array .byte) }, accessFlags := 0, code := some k2c3 }
def k2c4 : Code := { maxStack := 5, maxLocals := 2, code := prog_13_method_11_code, exceptionTable := #[], attributes := #[] }
def k2m4 : Method := { name := "byte1", desc := "(I)V", sig := { parameters := [.int], returnType := none }, accessFlags := 2, code := some k2c4 }
def k2c5 : Code := { maxStack := 5, maxLocals := 2, code := prog_13_method_16_code, exceptionTable := #[], attributes := #[] }
def k2m5 : Method := { name := "ensure", desc := "(I)V", sig := { parameters := [.int], returnType := none }, accessFlags := 2, code := some k2c5 }
/-- com/example/spanfacet/spanfacet/MsgpackWriter -/
def k2 : Class := { plain "com/example/spanfacet/spanfacet/MsgpackWriter" (some 0) with
  accessFlags := 48
  interfaces := #[]
  cf := some (fileOf pool2 8 #[] #[{ accessFlags := 0, nameIndex := 5, descriptorIndex := 6, attributes := #[] }, { accessFlags := 0, nameIndex := 107, descriptorIndex := 57, attributes := #[] }, { accessFlags := 0, nameIndex := 108, descriptorIndex := 109, attributes := #[] }, { accessFlags := 0, nameIndex := 110, descriptorIndex := 111, attributes := #[] }, { accessFlags := 2, nameIndex := 31, descriptorIndex := 32, attributes := #[] }, { accessFlags := 2, nameIndex := 85, descriptorIndex := 32, attributes := #[] }] 48 2 #[] #[{ accessFlags := 2, nameIndex := 11, descriptorIndex := 12, attributes := #[] }, { accessFlags := 2, nameIndex := 74, descriptorIndex := 75, attributes := #[] }])
  fields := #[{ name := "buffer", type := (.array .byte), accessFlags := 2, slot := 0, constantValue := 0 }, { name := "size", type := .int, accessFlags := 2, slot := 1, constantValue := 0 }]
  methods := #[k2m0, k2m1, k2m2, k2m3, k2m4, k2m5]
  instanceTypes := #[(.array .byte), .int]
  staticTypes := #[]
  resolved := Array.replicate 114 none
  statics := none }

def pool3 : Array CpInfo := pool [(2, .class_ 4), (1, u "java/lang/Object"), (0, u "<init>"), (0, u "()V"), (7, .class_ 16), (1, u "java/util/Arrays"), (57, .class_ 76), (1, u "java/util/Arrays$NaturalOrder"), (36, .class_ 115), (1, u "java/util/Arrays$LegacyMergeSort"), (1, u "Z"), (32, .methodref 151 152), (0, .class_ 153), (0, .nameAndType 154 155), (0, u "java/lang/System"), (0, u "arraycopy"), (0, u "(Ljava/lang/Object;ILjava/lang/Object;II)V"), (146, u "copyOf"), (1, .methodref 305 306), (0, .class_ 307), (0, .nameAndType 308 309), (0, u "java/lang/Math"), (0, u "min"), (0, u "(II)I"), (65, .class_ 376), (0, u "java/util/Arrays$ArrayList"), (68, u "$assertionsDisabled"), (269, u "MIN_ARRAY_SORT_GRAN"), (0, u "I"), (2, u "INSERTIONSORT_THRESHOLD"), (149, u "([BI)[B"), (105, .class_ 976), (0, u "java/util/Arrays$ArrayItr")] 52

def k3m0 : Method := { name := "<init>", desc := "()V", sig := { parameters := [], returnType := none }, accessFlags := 2, code := none }
def k3c1 : Code := { maxStack := 6, maxLocals := 3, code := jdk_65_method_121_code, exceptionTable := #[], attributes := #[] }
def k3m1 : Method := { name := "copyOf", desc := "([BI)[B", sig := { parameters := [(.array .byte), .int], returnType := some (.array .byte) }, accessFlags := 9, code := some k3c1 }
/-- java/util/Arrays -/
def k3 : Class := { plain "java/util/Arrays" (some 0) with
  accessFlags := 49
  interfaces := #[]
  cf := some (fileOf pool3 14 #[.nestMembers #[975, 375, 113, 74]] #[{ accessFlags := 2, nameIndex := 5, descriptorIndex := 6, attributes := #[] }, { accessFlags := 9, nameIndex := 302, descriptorIndex := 869, attributes := #[] }] 49 2 #[] #[{ accessFlags := 26, nameIndex := 715, descriptorIndex := 716, attributes := #[] }, { accessFlags := 26, nameIndex := 719, descriptorIndex := 716, attributes := #[] }, { accessFlags := 4120, nameIndex := 445, descriptorIndex := 117, attributes := #[] }])
  fields := #[{ name := "MIN_ARRAY_SORT_GRAN", type := .int, accessFlags := 26, slot := 0, constantValue := 0 }, { name := "INSERTIONSORT_THRESHOLD", type := .int, accessFlags := 26, slot := 1, constantValue := 0 }, { name := "$assertionsDisabled", type := .boolean, accessFlags := 4120, slot := 2, constantValue := 0 }]
  methods := #[k3m0, k3m1]
  instanceTypes := #[]
  staticTypes := #[.int, .int, .boolean]
  resolved := Array.replicate 1029 none
  statics := none }

def pool4 : Array CpInfo := pool [(1, .class_ 2), (0, u "java/lang/Math"), (1, .class_ 6), (1, u "java/lang/Object"), (0, u "<init>"), (0, u "()V"), (89, .class_ 100), (1, u "java/lang/Math$RandomNumberGeneratorHolder"), (71, u "negativeZeroFloatBits"), (0, u "J"), (2, u "negativeZeroDoubleBits"), (24, u "min"), (43, u "$assertionsDisabled"), (0, u "Z"), (88, u "(II)I"), (2, u "twoToTheDoubleScaleDown"), (0, u "D"), (4, u "twoToTheDoubleScaleUp"), (9, u "E"), (3, u "PI"), (2, u "TAU"), (2, u "DEGREES_TO_RADIANS"), (0, u "RADIANS_TO_DEGREES")] 94

def k4m0 : Method := { name := "<init>", desc := "()V", sig := { parameters := [], returnType := none }, accessFlags := 2, code := none }
def k4c1 : Code := { maxStack := 2, maxLocals := 2, code := jdk_29_method_69_code, exceptionTable := #[], attributes := #[] }
def k4m1 : Method := { name := "min", desc := "(II)I", sig := { parameters := [.int, .int], returnType := some .int }, accessFlags := 9, code := some k4c1 }
/-- java/lang/Math -/
def k4 : Class := { plain "java/lang/Math" (some 0) with
  accessFlags := 49
  interfaces := #[]
  cf := some (fileOf pool4 1 #[.nestMembers #[98]] #[{ accessFlags := 2, nameIndex := 7, descriptorIndex := 8, attributes := #[] }, { accessFlags := 9, nameIndex := 201, descriptorIndex := 335, attributes := #[] }] 49 4 #[] #[{ accessFlags := 25, nameIndex := 354, descriptorIndex := 339, attributes := #[] }, { accessFlags := 25, nameIndex := 358, descriptorIndex := 339, attributes := #[] }, { accessFlags := 25, nameIndex := 361, descriptorIndex := 339, attributes := #[] }, { accessFlags := 26, nameIndex := 364, descriptorIndex := 339, attributes := #[] }, { accessFlags := 26, nameIndex := 365, descriptorIndex := 339, attributes := #[] }, { accessFlags := 26, nameIndex := 172, descriptorIndex := 173, attributes := #[] }, { accessFlags := 26, nameIndex := 176, descriptorIndex := 173, attributes := #[] }, { accessFlags := 8, nameIndex := 344, descriptorIndex := 339, attributes := #[] }, { accessFlags := 8, nameIndex := 338, descriptorIndex := 339, attributes := #[] }, { accessFlags := 4120, nameIndex := 245, descriptorIndex := 246, attributes := #[] }])
  fields := #[{ name := "E", type := .double, accessFlags := 25, slot := 0, constantValue := 0 }, { name := "PI", type := .double, accessFlags := 25, slot := 1, constantValue := 0 }, { name := "TAU", type := .double, accessFlags := 25, slot := 2, constantValue := 0 }, { name := "DEGREES_TO_RADIANS", type := .double, accessFlags := 26, slot := 3, constantValue := 0 }, { name := "RADIANS_TO_DEGREES", type := .double, accessFlags := 26, slot := 4, constantValue := 0 }, { name := "negativeZeroFloatBits", type := .long, accessFlags := 26, slot := 5, constantValue := 0 }, { name := "negativeZeroDoubleBits", type := .long, accessFlags := 26, slot := 6, constantValue := 0 }, { name := "twoToTheDoubleScaleUp", type := .double, accessFlags := 8, slot := 7, constantValue := 0 }, { name := "twoToTheDoubleScaleDown", type := .double, accessFlags := 8, slot := 8, constantValue := 0 }, { name := "$assertionsDisabled", type := .boolean, accessFlags := 4120, slot := 9, constantValue := 0 }]
  methods := #[k4m0, k4m1]
  instanceTypes := #[]
  staticTypes := #[.double, .double, .double, .double, .double, .long, .long, .double, .double, .boolean]
  resolved := Array.replicate 460 none
  statics := none }

def pool5 : Array CpInfo := pool [(2, .class_ 4), (1, u "java/lang/Object"), (0, u "<init>"), (0, u "()V"), (1, .class_ 10), (1, u "java/lang/System"), (0, u "allowSecurityManager"), (0, u "I"), (16, u "cons"), (0, u "Ljava/io/Console;"), (77, .class_ 110), (1, u "java/lang/System$CallersHolder"), (43, u "initialErrStream"), (0, u "Ljava/io/PrintStream;"), (19, u "security"), (0, u "Ljava/lang/SecurityManager;"), (31, .class_ 209), (0, u "java/lang/System$1"), (7, u "props"), (0, u "Ljava/util/Properties;"), (2, u "lineSeparator"), (0, u "Ljava/lang/String;"), (96, .class_ 321), (1, u "java/lang/System$LoggerFinder"), (5, .class_ 328), (0, u "java/lang/System$Logger"), (67, u "err"), (2, u "out"), (91, u "notSupportedJnuEncoding"), (15, u "in"), (17, u "initialIn"), (0, u "Ljava/io/InputStream;"), (35, u "bootLayer"), (0, u "Ljava/lang/ModuleLayer;"), (99, .class_ 664), (0, u "java/lang/System$2"), (9, u "NEVER"), (2, u "MAYBE"), (49, u "arraycopy"), (0, u "(Ljava/lang/Object;ILjava/lang/Object;II)V"), (72, .class_ 802), (0, u "java/lang/System$Logger$Level")] 31

def k5m0 : Method := { name := "<init>", desc := "()V", sig := { parameters := [], returnType := none }, accessFlags := 2, code := none }
def k5m1 : Method := { name := "arraycopy", desc := "(Ljava/lang/Object;ILjava/lang/Object;II)V", sig := { parameters := [(.object "java/lang/Object"), .int, (.object "java/lang/Object"), .int, .int], returnType := none }, accessFlags := 265, code := none }
/-- java/lang/System -/
def k5 : Class := { plain "java/lang/System" (some 0) with
  accessFlags := 49
  interfaces := #[]
  cf := some (fileOf pool5 8 #[.nestMembers #[319, 327, 801, 108, 663, 208]] #[{ accessFlags := 2, nameIndex := 5, descriptorIndex := 6, attributes := #[] }, { accessFlags := 265, nameIndex := 727, descriptorIndex := 728, attributes := #[] }] 49 2 #[] #[{ accessFlags := 25, nameIndex := 507, descriptorIndex := 526, attributes := #[] }, { accessFlags := 25, nameIndex := 399, descriptorIndex := 155, attributes := #[] }, { accessFlags := 25, nameIndex := 396, descriptorIndex := 155, attributes := #[] }, { accessFlags := 10, nameIndex := 525, descriptorIndex := 526, attributes := #[] }, { accessFlags := 26, nameIndex := 674, descriptorIndex := 12, attributes := #[] }, { accessFlags := 26, nameIndex := 677, descriptorIndex := 12, attributes := #[] }, { accessFlags := 10, nameIndex := 11, descriptorIndex := 12, attributes := #[] }, { accessFlags := 74, nameIndex := 175, descriptorIndex := 176, attributes := #[] }, { accessFlags := 10, nameIndex := 491, descriptorIndex := 222, attributes := #[] }, { accessFlags := 74, nameIndex := 29, descriptorIndex := 30, attributes := #[] }, { accessFlags := 74, nameIndex := 154, descriptorIndex := 155, attributes := #[] }, { accessFlags := 10, nameIndex := 217, descriptorIndex := 218, attributes := #[] }, { accessFlags := 10, nameIndex := 221, descriptorIndex := 222, attributes := #[] }, { accessFlags := 8, nameIndex := 562, descriptorIndex := 563, attributes := #[] }])
  fields := #[{ name := "in", type := (.object "java/io/InputStream"), accessFlags := 25, slot := 0, constantValue := 0 }, { name := "out", type := (.object "java/io/PrintStream"), accessFlags := 25, slot := 1, constantValue := 0 }, { name := "err", type := (.object "java/io/PrintStream"), accessFlags := 25, slot := 2, constantValue := 0 }, { name := "initialIn", type := (.object "java/io/InputStream"), accessFlags := 10, slot := 3, constantValue := 0 }, { name := "NEVER", type := .int, accessFlags := 26, slot := 4, constantValue := 0 }, { name := "MAYBE", type := .int, accessFlags := 26, slot := 5, constantValue := 0 }, { name := "allowSecurityManager", type := .int, accessFlags := 10, slot := 6, constantValue := 0 }, { name := "security", type := (.object "java/lang/SecurityManager"), accessFlags := 74, slot := 7, constantValue := 0 }, { name := "notSupportedJnuEncoding", type := (.object "java/lang/String"), accessFlags := 10, slot := 8, constantValue := 0 }, { name := "cons", type := (.object "java/io/Console"), accessFlags := 74, slot := 9, constantValue := 0 }, { name := "initialErrStream", type := (.object "java/io/PrintStream"), accessFlags := 74, slot := 10, constantValue := 0 }, { name := "props", type := (.object "java/util/Properties"), accessFlags := 10, slot := 11, constantValue := 0 }, { name := "lineSeparator", type := (.object "java/lang/String"), accessFlags := 10, slot := 12, constantValue := 0 }, { name := "bootLayer", type := (.object "java/lang/ModuleLayer"), accessFlags := 8, slot := 13, constantValue := 0 }]
  methods := #[k5m0, k5m1]
  instanceTypes := #[]
  staticTypes := #[(.object "java/io/InputStream"), (.object "java/io/PrintStream"), (.object "java/io/PrintStream"), (.object "java/io/InputStream"), .int, .int, .int, (.object "java/lang/SecurityManager"), (.object "java/lang/String"), (.object "java/io/Console"), (.object "java/io/PrintStream"), (.object "java/util/Properties"), (.object "java/lang/String"), (.object "java/lang/ModuleLayer")]
  resolved := Array.replicate 834 none
  statics := none }

def pool6 : Array CpInfo := pool [(1, u "java/lang/Cloneable"), (0, .class_ 1), (0, u "java/lang/Object"), (0, .class_ 3)] 3

/-- java/lang/Cloneable -/
def k6 : Class := { plain "java/lang/Cloneable" (some 0) with
  accessFlags := 1537
  interfaces := #[]
  cf := some (fileOf pool6 2 #[] #[] 1537 4 #[] #[])
  fields := #[]
  methods := #[]
  instanceTypes := #[]
  staticTypes := #[]
  resolved := Array.replicate 8 none
  statics := none }

def pool7 : Array CpInfo := pool [(1, u "java/io/Serializable"), (0, .class_ 1), (0, u "java/lang/Object"), (0, .class_ 3)] 3

/-- java/io/Serializable -/
def k7 : Class := { plain "java/io/Serializable" (some 0) with
  accessFlags := 1537
  interfaces := #[]
  cf := some (fileOf pool7 2 #[] #[] 1537 4 #[] #[])
  fields := #[]
  methods := #[]
  instanceTypes := #[]
  staticTypes := #[]
  resolved := Array.replicate 8 none
  statics := none }

/-- the primitive byte -/
def k8 : Class := { plain "byte" none with kind := .primitive 'B', accessFlags := 0x411 }
/-- [B -/
def k9 : Class := { plain "[B" (some 0) with kind := .array 8 .byte, interfaces := #[6, 7], accessFlags := 1041 }

/-- the primitive int -/
def k10 : Class := { plain "int" none with kind := .primitive 'I', accessFlags := 0x411 }
/-- [I -/
def k11 : Class := { plain "[I" (some 0) with kind := .array 10 .int, interfaces := #[6, 7], accessFlags := 1041 }

def heap : Heap := #[]
def classes : Array Class := #[k0, k1, k2, k3, k4, k5, k6, k7, k8, k9, k10, k11]
def interned : List (Array UInt16 × Addr) := []
def slotsUsed : Nat := 0
def theMethod : MethodId := ⟨1, 1⟩
def args0 : Array Value := #[.int 3, .int 1, .int 5]
def aboutOver (below : List Frame) : State where
  vm := { classes := classes, interned := interned.toArray }
  heap := heap
  slotsUsed := slotsUsed
  threads := #[{ frames := .invoking theMethod args0 :: below }]
def below0 : List Frame := [.native { method := ⟨0, 0⟩, args := #[] }]
def about1 : State := aboutOver below0
def p0 : Program := .bare "" "" ""
def e0 : Env := launch0.env 0 0 0
theorem w_frames : about1.frames = Frame.invoking theMethod args0 :: below0 := rfl
set_option maxRecDepth 65536 in
theorem w_args : argsFit about1.vm theMethod args0 = true := by decide +kernel
set_option maxRecDepth 65536 in
theorem w_heap : heapFits about1 = true := by decide +kernel
set_option maxRecDepth 65536 in
theorem w_runnable : about1.curStatus? = some .runnable := by decide +kernel
set_option maxRecDepth 65536 in
theorem w_alone : about1.alone = true := by decide +kernel
set_option maxRecDepth 65536 in
theorem w_named : about1.methodNamed? x = some theMethod := by decide +kernel
set_option maxRecDepth 65536 in
theorem w_hears : about1.hears theMethod below0 = true := by decide +kernel
set_option maxRecDepth 65536 in
theorem w_ripe : about1.ripe theMethod args0 below0 = true := by decide +kernel
theorem w_running : about1.status = .running := rfl
set_option maxRecDepth 65536 in
theorem w_room : about1.hasRoom e0.platform room_1 = true :=
  launch0.hasRoom_least _ room_1 (by decide +kernel) (by decide +kernel) (by decide +kernel) (by decide +kernel) (by decide +kernel) (by decide +kernel)
theorem allAtoms_all (ts : List Jvm.Cond) (a : Array Jvm.Value) (st : Jvm.State) : (allAtoms ts).before a st = ts.all (fun c => c.before a st) := by
  induction ts with
  | nil => rfl
  | cons c t ih =>
    show (Jvm.Cond.and c (allAtoms t)).before a st = _
    rw [Jvm.Cond.before_and, ih, List.all_cons]
def words1 : List Jvm.Cond := Jvm.Cond.code x code maxLocals ret :: tables_1
/-- a 'code' word, met by the world's own term for the bytes: nothing is compared byte by byte -/
theorem code_word {y : MethodName} {bytes : ByteArray} {mx : Nat} {rt : Option FieldType} {a : Array Value} {s : State} {m : MethodId} {meth : Method} {c : Code} (h1 : s.methodNamed? y = some m) (h2 : s.vm.method? m = some meth) (h3 : meth.code = some c) (h4 : c.code = bytes)
    (h5 : (c.maxLocals == mx && c.exceptionTable.isEmpty && decide (c.maxStack ≤ mostOperands) && decide (meth.sig.returnType = rt) && !meth.locks && decide (parseMethodDescriptor y.desc = some meth.sig)) = true) : (Jvm.Cond.code y bytes mx rt).before a s = true := by
  simp only [Bool.and_eq_true, beq_iff_eq, Bool.not_eq_true', decide_eq_true_eq] at h5
  obtain ⟨⟨⟨⟨⟨g1, g2⟩, g3⟩, g4⟩, g5⟩, g6⟩ := h5
  simp [Cond.before, Cond.holds, Cond.value, h1, h2, h3, h4, g1, g2, g3, g4, g5, g6]
def isCode : Jvm.Cond → Bool
  | .code _ _ _ _ => true
  | _ => false
theorem all_split {L : List Jvm.Cond} {P : Jvm.Cond → Bool} (h1 : L.all (fun c => isCode c || P c) = true) (h2 : ∀ c ∈ L.filter isCode, P c = true) : L.all P = true := by
  refine List.all_eq_true.mpr fun c hc => ?_
  have h := List.all_eq_true.mp h1 c hc
  rcases Bool.eq_false_or_eq_true (isCode c) with hi | hi
  · exact h2 c (List.mem_filter.mpr ⟨hc, hi⟩)
  · simpa [hi] using h
set_option maxRecDepth 65536 in
theorem w_c0 : (Jvm.Cond.code x code maxLocals ret).before args0 about1 = true := code_word (m := ⟨1, 1⟩) (meth := k1m1) (c := k1c1) (by decide +kernel) rfl rfl rfl (by decide +kernel)
set_option maxRecDepth 65536 in
theorem w_c1 : (Jvm.Cond.code ({ cls := "com/example/spanfacet/spanfacet/MsgpackWriter", name := "<init>", desc := "()V" } : Jvm.MethodName) prog_13_method_1_code (1 : Nat) (Option.none : Option Jvm.ClassFile.FieldType)).before args0 about1 = true := code_word (m := ⟨2, 0⟩) (meth := k2m0) (c := k2c0) (by decide +kernel) rfl rfl rfl (by decide +kernel)
set_option maxRecDepth 65536 in
theorem w_c2 : (Jvm.Cond.code ({ cls := "java/lang/Object", name := "<init>", desc := "()V" } : Jvm.MethodName) object_method_1_code (1 : Nat) (Option.none : Option Jvm.ClassFile.FieldType)).before args0 about1 = true := code_word (m := ⟨0, 0⟩) (meth := k0m0) (c := k0c0) (by decide +kernel) rfl rfl rfl (by decide +kernel)
set_option maxRecDepth 65536 in
theorem w_c3 : (Jvm.Cond.code ({ cls := "com/example/spanfacet/spanfacet/MsgpackWriter", name := "toByteArray", desc := "()[B" } : Jvm.MethodName) prog_13_method_8_code (1 : Nat) (Option.some (Jvm.ClassFile.FieldType.array Jvm.ClassFile.FieldType.byte))).before args0 about1 = true := code_word (m := ⟨2, 3⟩) (meth := k2m3) (c := k2c3) (by decide +kernel) rfl rfl rfl (by decide +kernel)
set_option maxRecDepth 65536 in
theorem w_c4 : (Jvm.Cond.code ({ cls := "java/util/Arrays", name := "copyOf", desc := "([BI)[B" } : Jvm.MethodName) jdk_65_method_121_code (3 : Nat) (Option.some (Jvm.ClassFile.FieldType.array Jvm.ClassFile.FieldType.byte))).before args0 about1 = true := code_word (m := ⟨3, 1⟩) (meth := k3m1) (c := k3c1) (by decide +kernel) rfl rfl rfl (by decide +kernel)
set_option maxRecDepth 65536 in
theorem w_c5 : (Jvm.Cond.code ({ cls := "java/lang/Math", name := "min", desc := "(II)I" } : Jvm.MethodName) jdk_29_method_69_code (2 : Nat) (Option.some Jvm.ClassFile.FieldType.int)).before args0 about1 = true := code_word (m := ⟨4, 1⟩) (meth := k4m1) (c := k4c1) (by decide +kernel) rfl rfl rfl (by decide +kernel)
set_option maxRecDepth 65536 in
theorem w_c6 : (Jvm.Cond.code ({ cls := "com/example/spanfacet/spanfacet/MsgpackWriter", name := "bool", desc := "(Z)V" } : Jvm.MethodName) prog_13_method_7_code (2 : Nat) (Option.none : Option Jvm.ClassFile.FieldType)).before args0 about1 = true := code_word (m := ⟨2, 2⟩) (meth := k2m2) (c := k2c2) (by decide +kernel) rfl rfl rfl (by decide +kernel)
set_option maxRecDepth 65536 in
theorem w_c7 : (Jvm.Cond.code ({ cls := "com/example/spanfacet/spanfacet/MsgpackWriter", name := "byte1", desc := "(I)V" } : Jvm.MethodName) prog_13_method_11_code (2 : Nat) (Option.none : Option Jvm.ClassFile.FieldType)).before args0 about1 = true := code_word (m := ⟨2, 4⟩) (meth := k2m4) (c := k2c4) (by decide +kernel) rfl rfl rfl (by decide +kernel)
set_option maxRecDepth 65536 in
theorem w_c8 : (Jvm.Cond.code ({ cls := "com/example/spanfacet/spanfacet/MsgpackWriter", name := "ensure", desc := "(I)V" } : Jvm.MethodName) prog_13_method_16_code (2 : Nat) (Option.none : Option Jvm.ClassFile.FieldType)).before args0 about1 = true := code_word (m := ⟨2, 5⟩) (meth := k2m5) (c := k2c5) (by decide +kernel) rfl rfl rfl (by decide +kernel)
set_option maxRecDepth 65536 in
theorem w_c9 : (Jvm.Cond.code ({ cls := "com/example/spanfacet/spanfacet/MsgpackWriter", name := "integer", desc := "(J)V" } : Jvm.MethodName) prog_13_method_6_code (3 : Nat) (Option.none : Option Jvm.ClassFile.FieldType)).before args0 about1 = true := code_word (m := ⟨2, 1⟩) (meth := k2m1) (c := k2c1) (by decide +kernel) rfl rfl rfl (by decide +kernel)
def codes1 : List Jvm.Cond := [Jvm.Cond.code x code maxLocals ret, Jvm.Cond.code ({ cls := "com/example/spanfacet/spanfacet/MsgpackWriter", name := "<init>", desc := "()V" } : Jvm.MethodName) prog_13_method_1_code (1 : Nat) (Option.none : Option Jvm.ClassFile.FieldType), Jvm.Cond.code ({ cls := "java/lang/Object", name := "<init>", desc := "()V" } : Jvm.MethodName) object_method_1_code (1 : Nat) (Option.none : Option Jvm.ClassFile.FieldType), Jvm.Cond.code ({ cls := "com/example/spanfacet/spanfacet/MsgpackWriter", name := "toByteArray", desc := "()[B" } : Jvm.MethodName) prog_13_method_8_code (1 : Nat) (Option.some (Jvm.ClassFile.FieldType.array Jvm.ClassFile.FieldType.byte)), Jvm.Cond.code ({ cls := "java/util/Arrays", name := "copyOf", desc := "([BI)[B" } : Jvm.MethodName) jdk_65_method_121_code (3 : Nat) (Option.some (Jvm.ClassFile.FieldType.array Jvm.ClassFile.FieldType.byte)), Jvm.Cond.code ({ cls := "java/lang/Math", name := "min", desc := "(II)I" } : Jvm.MethodName) jdk_29_method_69_code (2 : Nat) (Option.some Jvm.ClassFile.FieldType.int), Jvm.Cond.code ({ cls := "com/example/spanfacet/spanfacet/MsgpackWriter", name := "bool", desc := "(Z)V" } : Jvm.MethodName) prog_13_method_7_code (2 : Nat) (Option.none : Option Jvm.ClassFile.FieldType), Jvm.Cond.code ({ cls := "com/example/spanfacet/spanfacet/MsgpackWriter", name := "byte1", desc := "(I)V" } : Jvm.MethodName) prog_13_method_11_code (2 : Nat) (Option.none : Option Jvm.ClassFile.FieldType), Jvm.Cond.code ({ cls := "com/example/spanfacet/spanfacet/MsgpackWriter", name := "ensure", desc := "(I)V" } : Jvm.MethodName) prog_13_method_16_code (2 : Nat) (Option.none : Option Jvm.ClassFile.FieldType), Jvm.Cond.code ({ cls := "com/example/spanfacet/spanfacet/MsgpackWriter", name := "integer", desc := "(J)V" } : Jvm.MethodName) prog_13_method_6_code (3 : Nat) (Option.none : Option Jvm.ClassFile.FieldType)]
set_option maxRecDepth 65536 in
theorem codes_eq : words1.filter isCode = codes1 := rfl
theorem w_codes : ∀ c ∈ words1.filter isCode, c.before args0 about1 = true := by
  rw [codes_eq]
  intro c hc
  simp only [codes1, List.mem_cons, List.not_mem_nil, or_false] at hc
  rcases hc with rfl | rfl | rfl | rfl | rfl | rfl | rfl | rfl | rfl | rfl
  · exact w_c0
  · exact w_c1
  · exact w_c2
  · exact w_c3
  · exact w_c4
  · exact w_c5
  · exact w_c6
  · exact w_c7
  · exact w_c8
  · exact w_c9
set_option maxRecDepth 65536 in
theorem w_t1 : (words1.take 24).all (fun c => isCode c || c.before args0 about1) = true := by decide +kernel
set_option maxRecDepth 65536 in
theorem w_t2 : ((words1.drop 24).take 24).all (fun c => isCode c || c.before args0 about1) = true := by decide +kernel
set_option maxRecDepth 65536 in
theorem w_t3 : ((words1.drop 24).drop 24).all (fun c => isCode c || c.before args0 about1) = true := by decide +kernel
theorem w_tables : (allAtoms (Jvm.Cond.code x code maxLocals ret :: tables_1)).before args0 about1 = true := by
  rw [allAtoms_all]
  show words1.all (fun c => c.before args0 about1) = true
  refine all_split ?_ w_codes
  rw [← List.take_append_drop 24 words1, List.all_append, w_t1, ← List.take_append_drop 24 (words1.drop 24), List.all_append, w_t2, w_t3]
  rfl
set_option maxRecDepth 65536 in
theorem w_case : (Jvm.Cond.and given_1 narrow_1).before args0 about1 = true := by decide +kernel
theorem w_applies : (headSpec (Jvm.Cond.code x code maxLocals ret :: tables_1) room_1).applies x e0.platform about1 = true :=
  (Spec.applies_iff w_frames).mpr ⟨w_running, w_runnable, w_alone, w_named, w_hears, w_ripe, w_room, w_tables⟩
theorem atStart : AtStart classFile x code maxLocals ret World_1 tables_1 room_1 Calls_1 rest_1 Pre_1 launch0 p0 e0 about1 theMethod args0 below0 :=
  ⟨lists_1, trivial, launch0.admits_env _ _ _, launch0.least_env, fairChoices_fair.cas, fairChoices_fair.clock, w_frames, w_args, w_heap, w_applies, trivial, trivial, w_case⟩
end start1
theorem witness_1 : WitnessClaimed_1 := ⟨start1.p0, start1.e0, start1.about1, start1.theMethod, start1.args0, start1.below0, start1.atStart⟩
end Jvm.Pilot.@@N@@
