import JvmDerived
import JvmDerived.Pilot.@@N@@Statement
import JvmDerived.Pilot.@@N@@Code
set_option linter.unusedVariables false
set_option linter.unusedSimpArgs false
namespace Jvm.RoadKit
open Sem ClassFile Op Lib Jvm.Stand Jvm.Free Jvm.LawKit
section New
variable {p : Program} {l : Launch} {e : Env} {R : Room} {s : State} {m : MethodId} {args : Array Value} {below : List Frame} {meth : Method} {c : Code} {T : State} {locs : List Loc} {cells slots : Nat}
theorem retI (X : Stand p l e R s m args below meth c T locs cells slots) (hx : p.tables.exec = Jvm.exec) {pc : Nat} {Ls : Array Slot} {z : Int32} {rest : List Value} (hret : meth.sig.returnType = some .int) (hd : decode c.code pc = .ok (.ireturn, 1)) {fs : List Frame}
    (hl : ∀ (f : JFrame) (acts : List Action), f.method = m → f.locked = none → f.entered = [] → (doReturn e (T.setTop f) acts (some (.int z))).1 = T.setFrames fs) : Steps p.tables e below (T.setTop (mkF m pc Ls (.int z :: rest))) (T.setFrames fs) := by
  have hm' : T.vm.method? m = some meth := X.method'
  have hn : narrow .int (.int z) = .int z := rfl
  show Steps p.tables e below (T.setTop { method := m, pc := pc, locals := Ls, stack := _ :: rest, locked := none }) _
  jvm_step X.here [X.here.top, hx, hd, hm', hret, hn]
  first | (intro acts; rw [hl _ acts rfl rfl rfl]) | rw [hl _ _ rfl rfl rfl]
  exact Steps.refl _
end New
end Jvm.RoadKit
namespace Jvm.Pilot.@@N@@
open Jvm Jvm.ClassFile Sem Op Lib Jvm.Free Jvm.Stand Jvm.LawKit Jvm.RoadKit Bundle Jvm.Pilot.@@N@@.Jvm.D
theorem own_irem (x y : Int32) : x - (x / y) * y = x % y := by
  apply Int32.toInt_inj.mp
  have a := (x % y).toInt_lt; have b := (x % y).le_toInt
  rw [Int32.toInt_mod] at a b ⊢
  rw [Int32.toInt_sub, Int32.toInt_mul, Int32.toInt_div, Int.bmod_mul_bmod, Int.sub_bmod_bmod, Int.mul_comm, ← Int.tmod_def]
  exact Int.bmod_eq_of_le (by omega) (by omega)
theorem own_ns_exa {Z : State} {h : Heap} {a : Addr} {C : String} (F : Exa Z h a C) : ∀ c : Cell, h[a]? = some c → c.vm.isStatics = false := fun c hc => by
  obtain ⟨cell, k, h1, -, -, h4, -⟩ := F
  cases h1.symm.trans hc; exact h4
theorem own_sta_keep {Z : State} {h h' : Heap} {C n d : String} {v : Value} {ws : List Addr} (F : Sta Z h C n d v) (K : Keep h h' ws) (q : ∀ x ∈ ws, ∀ c : Cell, h[x]? = some c → c.vm.isStatics = false) : Sta Z h' C n d v := by
  obtain ⟨cf, i, k, f, st, cell, h1, h2, h3, h4, h5, h6, h7⟩ := F
  refine ⟨cf, i, k, f, st, cell, h1, h2, h3, h4, K.2.1 st cell h5 (fun hm => ?_), h6, h7⟩
  rw [q st hm cell h5] at h6; cases h6
theorem own_wS {Z : State} {a0 : Array Value} (hw : ∀ d ∈ tables_1, d.before a0 Z = true) : ∀ a ∈ Bundle.stringAtoms, a.before a0 Z = true := fun a ha => by
  simp only [Bundle.stringAtoms, List.mem_cons, List.not_mem_nil, or_false] at ha
  rcases ha with rfl | rfl | rfl | rfl | rfl | rfl | rfl
  · exact hw _ (List.mem_of_getElem? (i := 16) rfl)
  · exact hw _ (List.mem_of_getElem? (i := 17) rfl)
  · exact hw _ (List.mem_of_getElem? (i := 18) rfl)
  · exact hw _ (List.mem_of_getElem? (i := 19) rfl)
  · exact hw _ (List.mem_of_getElem? (i := 20) rfl)
  · exact hw _ (List.mem_of_getElem? (i := 21) rfl)
  · exact hw _ (List.mem_of_getElem? (i := 22) rfl)
theorem own_root {Z : State} {a0 : Array Value} {O K : String} {n : Nat} (w : (Jvm.Cond.noSuperclass O).before a0 Z = true) (wk : (Jvm.Cond.instantiable K n).before a0 Z = true) (hn : O ≠ K) : NS Z O K := by
  obtain ⟨c, k, h1, h2, h3, -, -⟩ := Cond.noSuperclass_spec w
  obtain ⟨t, kt, g1, -⟩ := Cond.instantiable_spec wk
  have ne := ids_ne h1 g1 hn
  refine ⟨c, t, h1, g1, fun fuel => ?_⟩
  cases fuel with
  | zero => rfl
  | succ f => simp [Vm.isSubclassAux, ne, h2, h3]
theorem own_no {Z : State} {a0 : Array Value} {O S K : String} {n : Nat} (w : (Jvm.Cond.superclass O S).before a0 Z = true) (wk : (Jvm.Cond.instantiable K n).before a0 Z = true) (ns : NS Z O K) (hn : O ≠ K) : ∃ c t, Z.vm.findClass O = some c ∧ Z.vm.findClass K = some t ∧ Z.vm.assignable c t = false := by
  obtain ⟨c, t, h0, g0, n3⟩ := ns
  obtain ⟨p, k, kp, h1, h2, h3, h4, h5, -, h7⟩ := Cond.superclass_spec h0 w
  obtain ⟨t', kt, g1, g2, g5, g7, -⟩ := Cond.instantiable_spec wk
  cases g0.symm.trans g1
  have g8 : kt.isInterface = false := by cases hh : kt.isInterface with
    | false => rfl
    | true => rw [hh] at g7; cases g7
  have ne := ids_ne h0 g0 hn
  refine ⟨c, t, h0, g0, ?_⟩
  show Z.vm.assignableAux (255 + 1) c t = false
  simp [Vm.assignableAux, ne, h2, g2, h5, g5, g8, Vm.isSubclass, n3]
def own_eq (x1 x2 x3 y1 y2 y3 : Int64) : Int32 := if x1 = y1 then if x2 = y2 then if x3 = y3 then 1 else 0 else 0 else 0
theorem own_eqS (x1 x2 x3 y1 y2 y3 : Int64) : own_eq y1 y2 y3 x1 x2 x3 = own_eq x1 x2 x3 y1 y2 y3 := by
  unfold own_eq
  by_cases h1 : x1 = y1
  · subst h1
    by_cases h2 : x2 = y2
    · subst h2
      by_cases h3 : x3 = y3
      · subst h3; rfl
      · rw [if_pos rfl, if_pos rfl, if_neg (fun q => h3 q.symm), if_pos rfl, if_pos rfl, if_neg h3]
    · rw [if_pos rfl, if_neg (fun q => h2 q.symm), if_pos rfl, if_neg h2]
  · rw [if_neg (fun q => h1 q.symm), if_neg h1]
theorem own_eqR (x1 x2 x3 : Int64) : own_eq x1 x2 x3 x1 x2 x3 = 1 := by unfold own_eq; simp
theorem own_msk (x : Int64) : ¬ (x &&& (4294967295 : Int64)) < (0 : Int64) ∧ ¬ (4294967295 : Int64) < (x &&& (4294967295 : Int64)) := by
  have h1 := c_maskL x 4294967295 32 (by decide) (by decide +kernel)
  have v : ((2 ^ 32 : Nat) : Int) = 4294967296 := by decide +kernel
  rw [v] at h1
  have z0 : (0 : Int64).toInt = 0 := by decide
  have z1 : (4294967295 : Int64).toInt = 4294967295 := by decide +kernel
  rw [Int64.lt_iff_toInt_lt, Int64.lt_iff_toInt_lt, h1, z0, z1]
  omega
theorem own_shr (x : Int64) : ¬ (XT.ushrL x (32 : Int32)) < (0 : Int64) ∧ ¬ (4294967295 : Int64) < (XT.ushrL x (32 : Int32)) := by
  have e0 : ((32 : Int32).toInt64.toUInt64 &&& Int64.toUInt64 63) = ((32 : Int32) &&& 0x3f).toInt64.toUInt64 := by decide +kernel
  have h1 : (XT.ushrL x (32 : Int32)).toInt = (x.toInt % 18446744073709551616) / (2 ^ 32 : Nat) := by
    show ((x.toUInt64 >>> ((32 : Int32).toInt64.toUInt64 &&& Int64.toUInt64 63)).toInt64).toInt = _
    rw [e0]
    exact c_lushr x 32 32 (by decide) (by decide)
  have v : ((2 ^ 32 : Nat) : Int) = 4294967296 := by decide +kernel
  rw [v] at h1
  have z0 : (0 : Int64).toInt = 0 := by decide
  have z1 : (4294967295 : Int64).toInt = 4294967295 := by decide +kernel
  rw [Int64.lt_iff_toInt_lt, Int64.lt_iff_toInt_lt, h1, z0, z1]
  omega
theorem drec_0 : decode jdk_30_method_1_code 0 = .ok (.aload_n 0, 1) := by decide +kernel
theorem drec_1 : decode jdk_30_method_1_code 1 = .ok (.invokespecial 1, 3) := by decide +kernel
theorem drec_4 : decode jdk_30_method_1_code 4 = .ok (.return_, 1) := by decide +kernel
theorem pn_rec : plainName "java/lang/Record" = true := by first | (simp [plainName, overriddenIn]; done) | decide +kernel
theorem ef_rec (m : MethodId) (a1 : Addr) : entryFrame m #[(.ref a1)] 1 = (mkF m 0 #[.val (.ref a1)] []) := by first | (simp [entryFrame, mkF, argsToLocals, Value.category]; done) | rfl
def Q_rec (Z : State) (a1 : Addr) (h0 : Heap) (n0 : Nat) (v : Option Value) (h : Heap) (L : List Loc) : Prop := v = none ∧ Fr n0 L ∧ h = h0
set_option maxRecDepth 65536 in
set_option maxHeartbeats 40000000 in
theorem rm_rec (l : Launch) (Z : State) (a0 : Array Value) (hw : ∀ d ∈ tables_1, d.before a0 Z = true) (ws : List Jvm.Cond) (a1 : Addr) (h0 : Heap) (n0 : Nat) (Z0 : n0 ≤ h0.size)  :
    MetFree l (⟨"java/lang/Record", "<init>", "()V"⟩ : MethodName) (head1 (Jvm.Cond.code (⟨"java/lang/Record", "<init>", "()V"⟩ : MethodName) jdk_30_method_1_code 1 none :: ws) ({ frames := 1, cells := 0, slots := 0, locals := 12 } : Room)) (fun a U => a = #[(.ref a1)] ∧ Z.Warmed39 U.vm ∧ U.heap = h0) (fun _ _ _ _ _ => True) (fun _ U o U' => ∃ v L, o = .returned v ∧ Q_rec Z a1 h0 n0 v U'.heap L ∧ FrameEnd U o U' L ({ frames := 1, cells := 0, slots := 0, locals := 12 } : Room).cells ({ frames := 1, cells := 0, slots := 0, locals := 12 } : Room).slots) := by
  refine MetFree.of_bodySF (plainFor_of_name pn_rec) hisR ?_
  intro p e s m args below meth c s₁ Bd hml0 hP hK
  obtain ⟨rfl, hZ, hh⟩ := hP
  have hx := Bd.exec
  have hby := Bd.bytes
  have hml : c.maxLocals = 1 := hml0
  have hown : s.vm.findClass "java/lang/Record" = some m.cls := findClass_of_methodNamed Bd.named
  have hnm := (name_of_methodNamed Bd.named Bd.method).1
  have X0 : Stand p l e ({ frames := 1, cells := 0, slots := 0, locals := 12 } : Room) s m #[(.ref a1)] below meth c s₁ [] 0 0 := Stand.of_body Bd
  have e0 : s₁.heap = h0 := by rw [← hh, Bd.state]; rfl
  have N0 := Fr.nil n0
  have pre0 : ∀ t, Steps p.tables e below (s₁.setTop (mkF m 0 #[.val (.ref a1)] [])) t → Steps p.tables e below (s₁.setTop (entryFrame m #[(.ref a1)] 1)) t := fun t k => castTop (ef_rec m a1) k
  have pre2 : ∀ t, Steps p.tables e below (s₁.setTop (mkF m 1 #[.val (.ref a1)] [(.ref a1)])) t → Steps p.tables e below (s₁.setTop (entryFrame m #[(.ref a1)] 1)) t := fun t k => pre0 t (by
    show Steps p.tables e below (s₁.setTop (mkF m 0 #[.val (.ref a1)] [])) _
    refine XS.aloadN X0.here hx rfl (hb hby drec_0) rfl rfl ?_
    show Steps p.tables e below (s₁.setTop (mkF m 1 #[.val (.ref a1)] [(.ref a1)])) _
    exact k)
  obtain ⟨T3, X3, e3, st3⟩ := initO X0 hx hZ hown (hw _ (List.mem_of_getElem? (i := 12) rfl)) (hw _ (List.mem_of_getElem? (i := 13) rfl)) (hw _ (List.mem_of_getElem? (i := 14) rfl)) e0 (g := (mkF m 1 #[.val (.ref a1)] [(.ref a1)])) rfl (by rw [hml]; rfl) rfl (hb hby drec_1) (by decide) (W := 0) (by show 2 * 0 + _ ≤ _; exact Nat.le_of_eq rfl) (by decide)
  have pre4 : ∀ t, Steps p.tables e below (T3.setTop (mkF m 4 #[.val (.ref a1)] [])) t → Steps p.tables e below (s₁.setTop (entryFrame m #[(.ref a1)] 1)) t := fun t k => pre2 t (by
    show Steps p.tables e below (s₁.setTop (mkF m 1 #[.val (.ref a1)] [(.ref a1)])) _
    refine st3 _ ?_
    show Steps p.tables e below (T3.setTop (mkF m 4 #[.val (.ref a1)] [])) _
    exact k)
  obtain ⟨fs, hr, hrun, hended, hW, hsame⟩ := X3.leave (v := none) (fun _ => rfl)
  refine ⟨_, _, pre4 _ ?_, hrun, hended, _, _, rfl, ?_, ⟨_, rfl⟩, hW, hsame.mono (by decide) (by decide)⟩
  · exact X3.returnOut hx Bd.returns (hb hby drec_4) hr
  · show Q_rec Z a1 h0 n0 _ T3.heap _
    rw [e3]
    exact ⟨rfl, N0, rfl⟩
theorem dnum_0 : decode jdk_18_method_1_code 0 = .ok (.aload_n 0, 1) := by decide +kernel
theorem dnum_1 : decode jdk_18_method_1_code 1 = .ok (.invokespecial 1, 3) := by decide +kernel
theorem dnum_4 : decode jdk_18_method_1_code 4 = .ok (.return_, 1) := by decide +kernel
theorem pn_num : plainName "java/lang/Number" = true := by first | (simp [plainName, overriddenIn]; done) | decide +kernel
theorem ef_num (m : MethodId) (a1 : Addr) : entryFrame m #[(.ref a1)] 1 = (mkF m 0 #[.val (.ref a1)] []) := by first | (simp [entryFrame, mkF, argsToLocals, Value.category]; done) | rfl
def Q_num (Z : State) (a1 : Addr) (h0 : Heap) (n0 : Nat) (v : Option Value) (h : Heap) (L : List Loc) : Prop := v = none ∧ Fr n0 L ∧ h = h0
set_option maxRecDepth 65536 in
set_option maxHeartbeats 40000000 in
theorem rm_num (l : Launch) (Z : State) (a0 : Array Value) (hw : ∀ d ∈ tables_1, d.before a0 Z = true) (ws : List Jvm.Cond) (a1 : Addr) (h0 : Heap) (n0 : Nat) (Z0 : n0 ≤ h0.size)  :
    MetFree l (⟨"java/lang/Number", "<init>", "()V"⟩ : MethodName) (head1 (Jvm.Cond.code (⟨"java/lang/Number", "<init>", "()V"⟩ : MethodName) jdk_18_method_1_code 1 none :: ws) ({ frames := 1, cells := 0, slots := 0, locals := 12 } : Room)) (fun a U => a = #[(.ref a1)] ∧ Z.Warmed39 U.vm ∧ U.heap = h0) (fun _ _ _ _ _ => True) (fun _ U o U' => ∃ v L, o = .returned v ∧ Q_num Z a1 h0 n0 v U'.heap L ∧ FrameEnd U o U' L ({ frames := 1, cells := 0, slots := 0, locals := 12 } : Room).cells ({ frames := 1, cells := 0, slots := 0, locals := 12 } : Room).slots) := by
  refine MetFree.of_bodySF (plainFor_of_name pn_num) hisR ?_
  intro p e s m args below meth c s₁ Bd hml0 hP hK
  obtain ⟨rfl, hZ, hh⟩ := hP
  have hx := Bd.exec
  have hby := Bd.bytes
  have hml : c.maxLocals = 1 := hml0
  have hown : s.vm.findClass "java/lang/Number" = some m.cls := findClass_of_methodNamed Bd.named
  have hnm := (name_of_methodNamed Bd.named Bd.method).1
  have X0 : Stand p l e ({ frames := 1, cells := 0, slots := 0, locals := 12 } : Room) s m #[(.ref a1)] below meth c s₁ [] 0 0 := Stand.of_body Bd
  have e0 : s₁.heap = h0 := by rw [← hh, Bd.state]; rfl
  have N0 := Fr.nil n0
  have pre0 : ∀ t, Steps p.tables e below (s₁.setTop (mkF m 0 #[.val (.ref a1)] [])) t → Steps p.tables e below (s₁.setTop (entryFrame m #[(.ref a1)] 1)) t := fun t k => castTop (ef_num m a1) k
  have pre2 : ∀ t, Steps p.tables e below (s₁.setTop (mkF m 1 #[.val (.ref a1)] [(.ref a1)])) t → Steps p.tables e below (s₁.setTop (entryFrame m #[(.ref a1)] 1)) t := fun t k => pre0 t (by
    show Steps p.tables e below (s₁.setTop (mkF m 0 #[.val (.ref a1)] [])) _
    refine XS.aloadN X0.here hx rfl (hb hby dnum_0) rfl rfl ?_
    show Steps p.tables e below (s₁.setTop (mkF m 1 #[.val (.ref a1)] [(.ref a1)])) _
    exact k)
  obtain ⟨T3, X3, e3, st3⟩ := initO X0 hx hZ hown (hw _ (List.mem_of_getElem? (i := 64) rfl)) (hw _ (List.mem_of_getElem? (i := 13) rfl)) (hw _ (List.mem_of_getElem? (i := 14) rfl)) e0 (g := (mkF m 1 #[.val (.ref a1)] [(.ref a1)])) rfl (by rw [hml]; rfl) rfl (hb hby dnum_1) (by decide) (W := 0) (by show 2 * 0 + _ ≤ _; exact Nat.le_of_eq rfl) (by decide)
  have pre4 : ∀ t, Steps p.tables e below (T3.setTop (mkF m 4 #[.val (.ref a1)] [])) t → Steps p.tables e below (s₁.setTop (entryFrame m #[(.ref a1)] 1)) t := fun t k => pre2 t (by
    show Steps p.tables e below (s₁.setTop (mkF m 1 #[.val (.ref a1)] [(.ref a1)])) _
    refine st3 _ ?_
    show Steps p.tables e below (T3.setTop (mkF m 4 #[.val (.ref a1)] [])) _
    exact k)
  obtain ⟨fs, hr, hrun, hended, hW, hsame⟩ := X3.leave (v := none) (fun _ => rfl)
  refine ⟨_, _, pre4 _ ?_, hrun, hended, _, _, rfl, ?_, ⟨_, rfl⟩, hW, hsame.mono (by decide) (by decide)⟩
  · exact X3.returnOut hx Bd.returns (hb hby dnum_4) hr
  · show Q_num Z a1 h0 n0 _ T3.heap _
    rw [e3]
    exact ⟨rfl, N0, rfl⟩
theorem drfb_0 : decode prog_64_method_4_code 0 = .ok (.lload_n 1, 1) := by decide +kernel
theorem drfb_1 : decode prog_64_method_4_code 1 = .ok (.lconst 0, 1) := by decide +kernel
theorem drfb_2 : decode prog_64_method_4_code 2 = .ok (.lcmp, 1) := by decide +kernel
theorem drfb_3 : decode prog_64_method_4_code 3 = .ok (.ifCond .lt 11, 3) := by decide +kernel
theorem drfb_6 : decode prog_64_method_4_code 6 = .ok (.lload_n 1, 1) := by decide +kernel
theorem drfb_7 : decode prog_64_method_4_code 7 = .ok (.ldc2_w 69, 3) := by decide +kernel
theorem drfb_10 : decode prog_64_method_4_code 10 = .ok (.lcmp, 1) := by decide +kernel
theorem drfb_11 : decode prog_64_method_4_code 11 = .ok (.ifCond .le 18, 3) := by decide +kernel
theorem drfb_29 : decode prog_64_method_4_code 29 = .ok (.return_, 1) := by decide +kernel
theorem pn_rfb : plainName "com/example/terse_broker/tersebroker/codec/Handshake" = true := by first | (simp [plainName, overriddenIn]; done) | decide +kernel
theorem ef_rfb (m : MethodId) (b1 : Addr) (q : Int64) : entryFrame m #[(.ref b1), (.long q)] 3 = (mkF m 0 #[.val (.ref b1), .val (.long q), .second] []) := by first | (simp [entryFrame, mkF, argsToLocals, Value.category]; done) | rfl
def Q_rfb (Z : State) (b1 : Addr) (q : Int64) (h0 : Heap) (n0 : Nat) (v : Option Value) (h : Heap) (L : List Loc) : Prop := v = none ∧ Fr n0 L ∧ h = h0
set_option maxRecDepth 65536 in
set_option maxHeartbeats 40000000 in
theorem rm_rfb (l : Launch) (Z : State) (a0 : Array Value) (hw : ∀ d ∈ tables_1, d.before a0 Z = true) (ws : List Jvm.Cond) (b1 : Addr) (q : Int64) (h0 : Heap) (n0 : Nat) (Z0 : n0 ≤ h0.size) (hq : ¬ q < (0 : Int64) ∧ ¬ (4294967295 : Int64) < q) :
    MetFree l (⟨"com/example/terse_broker/tersebroker/codec/Handshake", "requireFourBytes", "(Ljava/lang/String;J)V"⟩ : MethodName) (head1 (Jvm.Cond.code (⟨"com/example/terse_broker/tersebroker/codec/Handshake", "requireFourBytes", "(Ljava/lang/String;J)V"⟩ : MethodName) prog_64_method_4_code 3 none :: ws) ({ frames := 0, cells := 0, slots := 0, locals := 0 } : Room)) (fun a U => a = #[(.ref b1), (.long q)] ∧ Z.Warmed39 U.vm ∧ U.heap = h0) (fun _ _ _ _ _ => True) (fun _ U o U' => ∃ v L, o = .returned v ∧ Q_rfb Z b1 q h0 n0 v U'.heap L ∧ FrameEnd U o U' L ({ frames := 0, cells := 0, slots := 0, locals := 0 } : Room).cells ({ frames := 0, cells := 0, slots := 0, locals := 0 } : Room).slots) := by
  refine MetFree.of_bodySF (plainFor_of_name pn_rfb) hisR ?_
  intro p e s m args below meth c s₁ Bd hml0 hP hK
  obtain ⟨rfl, hZ, hh⟩ := hP
  have hx := Bd.exec
  have hby := Bd.bytes
  have hml : c.maxLocals = 3 := hml0
  have hown : s.vm.findClass "com/example/terse_broker/tersebroker/codec/Handshake" = some m.cls := findClass_of_methodNamed Bd.named
  have hnm := (name_of_methodNamed Bd.named Bd.method).1
  have X0 : Stand p l e ({ frames := 0, cells := 0, slots := 0, locals := 0 } : Room) s m #[(.ref b1), (.long q)] below meth c s₁ [] 0 0 := Stand.of_body Bd
  have e0 : s₁.heap = h0 := by rw [← hh, Bd.state]; rfl
  have N0 := Fr.nil n0
  have pre0 : ∀ t, Steps p.tables e below (s₁.setTop (mkF m 0 #[.val (.ref b1), .val (.long q), .second] [])) t → Steps p.tables e below (s₁.setTop (entryFrame m #[(.ref b1), (.long q)] 3)) t := fun t k => castTop (ef_rfb m b1 q) k
  have pre2 : ∀ t, Steps p.tables e below (s₁.setTop (mkF m 29 #[.val (.ref b1), .val (.long q), .second] [])) t → Steps p.tables e below (s₁.setTop (entryFrame m #[(.ref b1), (.long q)] 3)) t := fun t k => pre0 t (by
    show Steps p.tables e below (s₁.setTop (mkF m 0 #[.val (.ref b1), .val (.long q), .second] [])) _
    refine XT.lloadN X0.here hx rfl (hb hby drfb_0) rfl ?_
    show Steps p.tables e below (s₁.setTop (mkF m 1 #[.val (.ref b1), .val (.long q), .second] [(.long q)])) _
    refine XT.lconst X0.here hx rfl (hb hby drfb_1) ?_
    show Steps p.tables e below (s₁.setTop (mkF m 2 #[.val (.ref b1), .val (.long q), .second] [(.long (0 : Int64)), (.long q)])) _
    refine XT.lcmp X0.here hx rfl (hb hby drfb_2) rfl ?_
    show Steps p.tables e below (s₁.setTop (mkF m 3 #[.val (.ref b1), .val (.long q), .second] [(.int (XT.cmpL q (0 : Int64)))])) _
    refine XS.ifNo X0.here hx rfl (hb hby drfb_3) rfl (XT.ll_lt_f hq.1) ?_
    show Steps p.tables e below (s₁.setTop (mkF m 6 #[.val (.ref b1), .val (.long q), .second] [])) _
    refine XT.lloadN X0.here hx rfl (hb hby drfb_6) rfl ?_
    show Steps p.tables e below (s₁.setTop (mkF m 7 #[.val (.ref b1), .val (.long q), .second] [(.long q)])) _
    refine X0.ldc2J hx hown (mvT hZ (hw _ (List.mem_of_getElem? (i := 26) rfl))) rfl (hb hby drfb_7) ?_
    show Steps p.tables e below (s₁.setTop (mkF m 10 #[.val (.ref b1), .val (.long q), .second] [(.long (4294967295 : Int64)), (.long q)])) _
    refine XT.lcmp X0.here hx rfl (hb hby drfb_10) rfl ?_
    show Steps p.tables e below (s₁.setTop (mkF m 11 #[.val (.ref b1), .val (.long q), .second] [(.int (XT.cmpL q (4294967295 : Int64)))])) _
    refine XS.ifYes X0.here hx rfl (pc0 := 11) (pc' := 29) rfl (hb hby drfb_11) rfl (XT.ll_le_t hq.2) (by decide) (by decide) ?_
    show Steps p.tables e below (s₁.setTop (mkF m 29 #[.val (.ref b1), .val (.long q), .second] [])) _
    exact k)
  obtain ⟨fs, hr, hrun, hended, hW, hsame⟩ := X0.leave (v := none) (fun _ => rfl)
  refine ⟨_, _, pre2 _ ?_, hrun, hended, _, _, rfl, ?_, ⟨_, rfl⟩, hW, hsame.mono (by decide) (by decide)⟩
  · exact X0.returnOut hx Bd.returns (hb hby drfb_29) hr
  · show Q_rfb Z b1 q h0 n0 _ s₁.heap _
    rw [e0]
    exact ⟨rfl, N0, rfl⟩
theorem dini_0 : decode prog_64_method_1_code 0 = .ok (.aload_n 0, 1) := by decide +kernel
theorem dini_1 : decode prog_64_method_1_code 1 = .ok (.invokespecial 5, 3) := by decide +kernel
theorem dini_4 : decode prog_64_method_1_code 4 = .ok (.ldc 11, 2) := by decide +kernel
theorem dini_6 : decode prog_64_method_1_code 6 = .ok (.lload_n 1, 1) := by decide +kernel
theorem dini_7 : decode prog_64_method_1_code 7 = .ok (.invokestatic 13, 3) := by decide +kernel
theorem dini_10 : decode prog_64_method_1_code 10 = .ok (.ldc 19, 2) := by decide +kernel
theorem dini_12 : decode prog_64_method_1_code 12 = .ok (.lload 5, 2) := by decide +kernel
theorem dini_14 : decode prog_64_method_1_code 14 = .ok (.invokestatic 13, 3) := by decide +kernel
theorem dini_17 : decode prog_64_method_1_code 17 = .ok (.aload_n 0, 1) := by decide +kernel
theorem dini_18 : decode prog_64_method_1_code 18 = .ok (.lload_n 1, 1) := by decide +kernel
theorem dini_19 : decode prog_64_method_1_code 19 = .ok (.putfield 21, 3) := by decide +kernel
theorem dini_22 : decode prog_64_method_1_code 22 = .ok (.aload_n 0, 1) := by decide +kernel
theorem dini_23 : decode prog_64_method_1_code 23 = .ok (.lload_n 3, 1) := by decide +kernel
theorem dini_24 : decode prog_64_method_1_code 24 = .ok (.putfield 25, 3) := by decide +kernel
theorem dini_27 : decode prog_64_method_1_code 27 = .ok (.aload_n 0, 1) := by decide +kernel
theorem dini_28 : decode prog_64_method_1_code 28 = .ok (.lload 5, 2) := by decide +kernel
theorem dini_30 : decode prog_64_method_1_code 30 = .ok (.putfield 28, 3) := by decide +kernel
theorem dini_33 : decode prog_64_method_1_code 33 = .ok (.return_, 1) := by decide +kernel
theorem pd___V : parseMethodDescriptor "()V" = some ⟨[], none⟩ := by decide +kernel
theorem pd__Ljava_lang_String_J_V : parseMethodDescriptor "(Ljava/lang/String;J)V" = some ⟨[(.object "java/lang/String"), .long], none⟩ := by decide +kernel
theorem pn_ini : plainName "com/example/terse_broker/tersebroker/codec/Handshake" = true := by first | (simp [plainName, overriddenIn]; done) | decide +kernel
theorem ef_ini (m : MethodId) (a1 : Addr) (q1 : Int64) (q2 : Int64) (q3 : Int64) : entryFrame m #[(.ref a1), (.long q1), (.long q2), (.long q3)] 7 = (mkF m 0 #[.val (.ref a1), .val (.long q1), .second, .val (.long q2), .second, .val (.long q3), .second] []) := by first | (simp [entryFrame, mkF, argsToLocals, Value.category]; done) | rfl
def Q_ini (Z : State) (a1 : Addr) (q1 q2 q3 : Int64) (u1 u2 u3 : Value) (h0 : Heap) (n0 : Nat) (v : Option Value) (h : Heap) (L : List Loc) : Prop := v = none ∧ Fr n0 L ∧ Keep h0 h [a1] ∧ Fld Z h a1 "com/example/terse_broker/tersebroker/codec/Handshake" "maxFragmentSize" "J" (.long q1) ∧ Fld Z h a1 "com/example/terse_broker/tersebroker/codec/Handshake" "maxAggregateSize" "J" (.long q2) ∧ Fld Z h a1 "com/example/terse_broker/tersebroker/codec/Handshake" "ackTimeoutMillis" "J" (.long q3)
set_option maxRecDepth 65536 in
set_option maxHeartbeats 40000000 in
theorem rm_ini (l : Launch) (Z : State) (a0 : Array Value) (hw : ∀ d ∈ tables_1, d.before a0 Z = true) (ws : List Jvm.Cond) (a1 : Addr) (q1 q2 q3 : Int64) (u1 u2 u3 : Value) (h0 : Heap) (n0 : Nat) (Z0 : n0 ≤ h0.size) (E1 : Exa Z h0 a1 "com/example/terse_broker/tersebroker/codec/Handshake") (F1 : Fld Z h0 a1 "com/example/terse_broker/tersebroker/codec/Handshake" "maxFragmentSize" "J" u1) (F2 : Fld Z h0 a1 "com/example/terse_broker/tersebroker/codec/Handshake" "maxAggregateSize" "J" u2) (F3 : Fld Z h0 a1 "com/example/terse_broker/tersebroker/codec/Handshake" "ackTimeoutMillis" "J" u3) (g_a1 : n0 ≤ a1) (hq1 : ¬ q1 < (0 : Int64) ∧ ¬ (4294967295 : Int64) < q1) (hq3 : ¬ q3 < (0 : Int64) ∧ ¬ (4294967295 : Int64) < q3) :
    MetFree l (⟨"com/example/terse_broker/tersebroker/codec/Handshake", "<init>", "(JJJ)V"⟩ : MethodName) (head1 (Jvm.Cond.code (⟨"com/example/terse_broker/tersebroker/codec/Handshake", "<init>", "(JJJ)V"⟩ : MethodName) prog_64_method_1_code 7 none :: ws) ({ frames := 2, cells := 4, slots := 148, locals := 24 } : Room)) (fun a U => a = #[(.ref a1), (.long q1), (.long q2), (.long q3)] ∧ Z.Warmed39 U.vm ∧ U.heap = h0) (fun _ _ _ _ _ => True) (fun _ U o U' => ∃ v L, o = .returned v ∧ Q_ini Z a1 q1 q2 q3 u1 u2 u3 h0 n0 v U'.heap L ∧ ReturnedEndW U o U' L ({ frames := 2, cells := 4, slots := 148, locals := 24 } : Room).cells ({ frames := 2, cells := 4, slots := 148, locals := 24 } : Room).slots) := by
  refine MetFree.of_bodySF (plainFor_of_name pn_ini) hisR ?_
  intro p e s m args below meth c s₁ Bd hml0 hP hK
  obtain ⟨rfl, hZ, hh⟩ := hP
  have hx := Bd.exec
  have hby := Bd.bytes
  have hml : c.maxLocals = 7 := hml0
  have hown : s.vm.findClass "com/example/terse_broker/tersebroker/codec/Handshake" = some m.cls := findClass_of_methodNamed Bd.named
  have hnm := (name_of_methodNamed Bd.named Bd.method).1
  have X0 : Stand p l e ({ frames := 2, cells := 4, slots := 148, locals := 24 } : Room) (s.setVm s.vm) m #[(.ref a1), (.long q1), (.long q2), (.long q3)] below meth c s₁ [] 0 0 := Stand.of_body Bd
  have S0 : s.Since s.vm 0 := (State.WarmedH.refl s).since 0
  have kp0 : 0 ≤ h0.size := Nat.zero_le _
  have e0 : s₁.heap = h0 := by rw [← hh, Bd.state]; rfl
  have N0 := Fr.nil n0
  have pre0 : ∀ t, Steps p.tables e below (s₁.setTop (mkF m 0 #[.val (.ref a1), .val (.long q1), .second, .val (.long q2), .second, .val (.long q3), .second] [])) t → Steps p.tables e below (s₁.setTop (entryFrame m #[(.ref a1), (.long q1), (.long q2), (.long q3)] 7)) t := fun t k => castTop (ef_ini m a1 q1 q2 q3) k
  have K2 : Keep h0 h0 [a1] := Keep.refl h0 [a1]
  have pre3 : ∀ t, Steps p.tables e below (s₁.setTop (mkF m 1 #[.val (.ref a1), .val (.long q1), .second, .val (.long q2), .second, .val (.long q3), .second] [(.ref a1)])) t → Steps p.tables e below (s₁.setTop (entryFrame m #[(.ref a1), (.long q1), (.long q2), (.long q3)] 7)) t := fun t k => pre0 t (by
    show Steps p.tables e below (s₁.setTop (mkF m 0 #[.val (.ref a1), .val (.long q1), .second, .val (.long q2), .second, .val (.long q3), .second] [])) _
    refine XS.aloadN X0.here hx rfl (hb hby dini_0) rfl rfl ?_
    show Steps p.tables e below (s₁.setTop (mkF m 1 #[.val (.ref a1), .val (.long q1), .second, .val (.long q2), .second, .val (.long q3), .second] [(.ref a1)])) _
    exact k)
  obtain ⟨_, _, ⟨T4, L4, kk4, nn4⟩, -, X4, ⟨Lc4, hQ4, l4, y4, z4⟩, st4⟩ := X0.specialBack hx (y := (⟨"java/lang/Record", "<init>", "()V"⟩ : MethodName)) rfl hown (mvT hZ (hw _ (List.mem_of_getElem? (i := 7) rfl))) (mvT hZ (hw _ (List.mem_of_getElem? (i := 8) rfl))) (mvT hZ (hw _ (List.mem_of_getElem? (i := 11) rfl))) (by decide) (backOf (W := 0) (rm_rec l Z a0 hw [] a1 h0 n0 Z0 ) hZ (hw _ (List.mem_of_getElem? (i := 11) rfl)) (hw _ (List.mem_of_getElem? (i := 10) rfl)) (by decide) (by decide)) (g := (mkF m 1 #[.val (.ref a1), .val (.long q1), .second, .val (.long q2), .second, .val (.long q3), .second] [(.ref a1)])) rfl (by rw [hml]; rfl) (Steps.refl _) (a := a1) (argsL := []) (rest := []) (lenOf pd___V rfl) rfl (by show 2 * 0 + _ ≤ _; exact Nat.le_of_eq rfl) (hb hby dini_1) (fun _ _ => ⟨rfl, e0, (by decide : 0 + 0 ≤ _), (by decide : 0 + 0 ≤ _)⟩)
  dsimp only [Pt.U, Pt.locs, Pt.cells, Pt.slots] at X4 l4 y4 z4 st4 hQ4
  subst l4 y4 z4
  obtain ⟨rfl, N4q, eq4⟩ := hQ4
  have N4 := Fr.app N0 N4q
  have pre5 : ∀ t, Steps p.tables e below (T4.setTop (mkF m 4 #[.val (.ref a1), .val (.long q1), .second, .val (.long q2), .second, .val (.long q3), .second] [])) t → Steps p.tables e below (s₁.setTop (entryFrame m #[(.ref a1), (.long q1), (.long q2), (.long q3)] 7)) t := fun t k => pre3 t (by
    show Steps p.tables e below (s₁.setTop (mkF m 1 #[.val (.ref a1), .val (.long q1), .second, .val (.long q2), .second, .val (.long q3), .second] [(.ref a1)])) _
    refine st4.trans ?_
    show Steps p.tables e below (T4.setTop (mkF m 4 #[.val (.ref a1), .val (.long q1), .second, .val (.long q2), .second, .val (.long q3), .second] [])) _
    exact k)
  obtain ⟨b6, T6, h6, k6, X6, e6, E6, S6, kp6, hZ, hown, st6⟩ := ldcS X4 hx hZ hown (hw _ (List.mem_of_getElem? (i := 15) rfl)) (own_wS hw) eq4 S0 kp0 (g := (mkF m 4 #[.val (.ref a1), .val (.long q1), .second, .val (.long q2), .second, .val (.long q3), .second] [])) rfl (hb hby dini_4) (n := 68) (by first | decide | decide +kernel | simp) (by decide) (by decide) (by decide)
  have f7_0 := E1.ext E6
  have f7_1 := F1.ext E6
  have f7_2 := F2.ext E6
  have f7_3 := F3.ext E6
  have K8 := K2.ext E6
  have Z6 : n0 ≤ h6.size := Nat.le_trans Z0 E6.1
  have pre9 : ∀ t, Steps p.tables e below (T6.setTop (mkF m 7 #[.val (.ref a1), .val (.long q1), .second, .val (.long q2), .second, .val (.long q3), .second] [(.long q1), (.ref b6)])) t → Steps p.tables e below (s₁.setTop (entryFrame m #[(.ref a1), (.long q1), (.long q2), (.long q3)] 7)) t := fun t k => pre5 t (by
    show Steps p.tables e below (T4.setTop (mkF m 4 #[.val (.ref a1), .val (.long q1), .second, .val (.long q2), .second, .val (.long q3), .second] [])) _
    refine st6 _ ?_
    show Steps p.tables e below (T6.setTop (mkF m 6 #[.val (.ref a1), .val (.long q1), .second, .val (.long q2), .second, .val (.long q3), .second] [(.ref b6)])) _
    refine XT.lloadN X6.here hx rfl (hb hby dini_6) rfl ?_
    show Steps p.tables e below (T6.setTop (mkF m 7 #[.val (.ref a1), .val (.long q1), .second, .val (.long q2), .second, .val (.long q3), .second] [(.long q1), (.ref b6)])) _
    exact k)
  obtain ⟨_, _, ⟨T10, L10, kk10, nn10⟩, -, X10, ⟨Lc10, hQ10, l10, y10, z10⟩, st10⟩ := Jvm.LawKit.callS X6 hx (y := (⟨"com/example/terse_broker/tersebroker/codec/Handshake", "requireFourBytes", "(Ljava/lang/String;J)V"⟩ : MethodName)) hown (mvT hZ (hw _ (List.mem_of_getElem? (i := 23) rfl))) (mvT hZ (hw _ (List.mem_of_getElem? (i := 24) rfl))) (mvT hZ (hw _ (List.mem_of_getElem? (i := 3) rfl))) (mvT hZ (hw _ (List.mem_of_getElem? (i := 25) rfl))) (by decide) (backOf (W := 0) (rm_rfb l Z a0 hw [] b6 q1 h6 n0 Z6 hq1) hZ (hw _ (List.mem_of_getElem? (i := 25) rfl)) (hw _ (List.mem_of_getElem? (i := 3) rfl)) (by decide) (by decide)) (g := (mkF m 7 #[.val (.ref a1), .val (.long q1), .second, .val (.long q2), .second, .val (.long q3), .second] [(.long q1), (.ref b6)])) rfl (by rw [hml]; rfl) (argsL := [(.ref b6), (.long q1)]) (rest := []) (lenOf pd__Ljava_lang_String_J_V rfl) rfl (by show 2 * 0 + _ ≤ _; exact Nat.le_of_eq rfl) (hb hby dini_7) (fun _ _ => ⟨rfl, e6, (by decide : 2 + 0 ≤ _), (by decide : 72 + 0 ≤ _)⟩)
  dsimp only [Pt.U, Pt.locs, Pt.cells, Pt.slots] at X10 l10 y10 z10 st10 hQ10
  subst l10 y10 z10
  obtain ⟨rfl, N10q, eq10⟩ := hQ10
  have N10 := Fr.app N4 N10q
  have pre11 : ∀ t, Steps p.tables e below (T10.setTop (mkF m 10 #[.val (.ref a1), .val (.long q1), .second, .val (.long q2), .second, .val (.long q3), .second] [])) t → Steps p.tables e below (s₁.setTop (entryFrame m #[(.ref a1), (.long q1), (.long q2), (.long q3)] 7)) t := fun t k => pre9 t (by
    show Steps p.tables e below (T6.setTop (mkF m 7 #[.val (.ref a1), .val (.long q1), .second, .val (.long q2), .second, .val (.long q3), .second] [(.long q1), (.ref b6)])) _
    refine st10 _ ?_
    show Steps p.tables e below (T10.setTop (mkF m 10 #[.val (.ref a1), .val (.long q1), .second, .val (.long q2), .second, .val (.long q3), .second] [])) _
    exact k)
  obtain ⟨b12, T12, h12, k12, X12, e12, E12, S12, kp12, hZ, hown, st12⟩ := ldcS X10 hx hZ hown (hw _ (List.mem_of_getElem? (i := 27) rfl)) (own_wS hw) eq10 S6 kp6 (g := (mkF m 10 #[.val (.ref a1), .val (.long q1), .second, .val (.long q2), .second, .val (.long q3), .second] [])) rfl (hb hby dini_10) (n := 72) (by first | decide | decide +kernel | simp) (by decide) (by decide) (by decide)
  have f13_0 := f7_0.ext E12
  have f13_1 := f7_1.ext E12
  have f13_2 := f7_2.ext E12
  have f13_3 := f7_3.ext E12
  have K14 := K8.ext E12
  have Z12 : n0 ≤ h12.size := Nat.le_trans Z6 E12.1
  have pre15 : ∀ t, Steps p.tables e below (T12.setTop (mkF m 14 #[.val (.ref a1), .val (.long q1), .second, .val (.long q2), .second, .val (.long q3), .second] [(.long q3), (.ref b12)])) t → Steps p.tables e below (s₁.setTop (entryFrame m #[(.ref a1), (.long q1), (.long q2), (.long q3)] 7)) t := fun t k => pre11 t (by
    show Steps p.tables e below (T10.setTop (mkF m 10 #[.val (.ref a1), .val (.long q1), .second, .val (.long q2), .second, .val (.long q3), .second] [])) _
    refine st12 _ ?_
    show Steps p.tables e below (T12.setTop (mkF m 12 #[.val (.ref a1), .val (.long q1), .second, .val (.long q2), .second, .val (.long q3), .second] [(.ref b12)])) _
    refine XT.lload X12.here hx rfl (hb hby dini_12) rfl ?_
    show Steps p.tables e below (T12.setTop (mkF m 14 #[.val (.ref a1), .val (.long q1), .second, .val (.long q2), .second, .val (.long q3), .second] [(.long q3), (.ref b12)])) _
    exact k)
  obtain ⟨_, _, ⟨T16, L16, kk16, nn16⟩, -, X16, ⟨Lc16, hQ16, l16, y16, z16⟩, st16⟩ := Jvm.LawKit.callS X12 hx (y := (⟨"com/example/terse_broker/tersebroker/codec/Handshake", "requireFourBytes", "(Ljava/lang/String;J)V"⟩ : MethodName)) hown (mvT hZ (hw _ (List.mem_of_getElem? (i := 23) rfl))) (mvT hZ (hw _ (List.mem_of_getElem? (i := 24) rfl))) (mvT hZ (hw _ (List.mem_of_getElem? (i := 3) rfl))) (mvT hZ (hw _ (List.mem_of_getElem? (i := 25) rfl))) (by decide) (backOf (W := 0) (rm_rfb l Z a0 hw [] b12 q3 h12 n0 Z12 hq3) hZ (hw _ (List.mem_of_getElem? (i := 25) rfl)) (hw _ (List.mem_of_getElem? (i := 3) rfl)) (by decide) (by decide)) (g := (mkF m 14 #[.val (.ref a1), .val (.long q1), .second, .val (.long q2), .second, .val (.long q3), .second] [(.long q3), (.ref b12)])) rfl (by rw [hml]; rfl) (argsL := [(.ref b12), (.long q3)]) (rest := []) (lenOf pd__Ljava_lang_String_J_V rfl) rfl (by show 2 * 0 + _ ≤ _; exact Nat.le_of_eq rfl) (hb hby dini_14) (fun _ _ => ⟨rfl, e12, (by decide : 4 + 0 ≤ _), (by decide : 148 + 0 ≤ _)⟩)
  dsimp only [Pt.U, Pt.locs, Pt.cells, Pt.slots] at X16 l16 y16 z16 st16 hQ16
  subst l16 y16 z16
  obtain ⟨rfl, N16q, eq16⟩ := hQ16
  have N16 := Fr.app N10 N16q
  have pre17 : ∀ t, Steps p.tables e below (T16.setTop (mkF m 19 #[.val (.ref a1), .val (.long q1), .second, .val (.long q2), .second, .val (.long q3), .second] [(.long q1), (.ref a1)])) t → Steps p.tables e below (s₁.setTop (entryFrame m #[(.ref a1), (.long q1), (.long q2), (.long q3)] 7)) t := fun t k => pre15 t (by
    show Steps p.tables e below (T12.setTop (mkF m 14 #[.val (.ref a1), .val (.long q1), .second, .val (.long q2), .second, .val (.long q3), .second] [(.long q3), (.ref b12)])) _
    refine st16 _ ?_
    show Steps p.tables e below (T16.setTop (mkF m 17 #[.val (.ref a1), .val (.long q1), .second, .val (.long q2), .second, .val (.long q3), .second] [])) _
    refine XS.aloadN X16.here hx rfl (hb hby dini_17) rfl rfl ?_
    show Steps p.tables e below (T16.setTop (mkF m 18 #[.val (.ref a1), .val (.long q1), .second, .val (.long q2), .second, .val (.long q3), .second] [(.ref a1)])) _
    refine XT.lloadN X16.here hx rfl (hb hby dini_18) rfl ?_
    show Steps p.tables e below (T16.setTop (mkF m 19 #[.val (.ref a1), .val (.long q1), .second, .val (.long q2), .second, .val (.long q3), .second] [(.long q1), (.ref a1)])) _
    exact k)
  obtain ⟨T18, h18, X18, e18, W18, st18⟩ := putF X16 hx hZ hown (host := "") (Or.inl (hw _ (List.mem_of_getElem? (i := 28) rfl))) Via.refl eq16 f13_1 f13_0 (Or.inr ⟨(hw _ (List.mem_of_getElem? (i := 29) rfl)), rfl, hnm⟩) (hw _ (List.mem_of_getElem? (i := 2) rfl)) (ty := .long) (by decide) rfl rfl (g := (mkF m 19 #[.val (.ref a1), .val (.long q1), .second, .val (.long q2), .second, .val (.long q3), .second] [(.long q1), (.ref a1)])) rfl rfl (hb hby dini_19)
  have F18 := f13_1.same W18
  have N18 := Fr.snoc X18 N16 g_a1
  have f19_0 := f13_0.wr W18
  have f19_2 := f13_2.other W18 (Or.inr (slot_ne (Or.inr (hw _ (List.mem_of_getElem? (i := 31) rfl))) (Or.inr (hw _ (List.mem_of_getElem? (i := 29) rfl))) (by decide) (t := .long) (t' := .long) (by decide) (by decide)))
  have f19_3 := f13_3.other W18 (Or.inr (slot_ne (Or.inr (hw _ (List.mem_of_getElem? (i := 33) rfl))) (Or.inr (hw _ (List.mem_of_getElem? (i := 29) rfl))) (by decide) (t := .long) (t' := .long) (by decide) (by decide)))
  have K20 := K14.wr W18 (Or.inl (List.mem_of_getElem? (i := 0) rfl))
  have Z18 : n0 ≤ h18.size := Nat.le_trans Z12 (Keep.of_wr W18).1
  have kp18 : k12 ≤ h18.size := Nat.le_trans kp12 (Keep.of_wr W18).1
  have pre21 : ∀ t, Steps p.tables e below (T18.setTop (mkF m 24 #[.val (.ref a1), .val (.long q1), .second, .val (.long q2), .second, .val (.long q3), .second] [(.long q2), (.ref a1)])) t → Steps p.tables e below (s₁.setTop (entryFrame m #[(.ref a1), (.long q1), (.long q2), (.long q3)] 7)) t := fun t k => pre17 t (by
    show Steps p.tables e below (T16.setTop (mkF m 19 #[.val (.ref a1), .val (.long q1), .second, .val (.long q2), .second, .val (.long q3), .second] [(.long q1), (.ref a1)])) _
    refine st18 _ ?_
    show Steps p.tables e below (T18.setTop (mkF m 22 #[.val (.ref a1), .val (.long q1), .second, .val (.long q2), .second, .val (.long q3), .second] [])) _
    refine XS.aloadN X18.here hx rfl (hb hby dini_22) rfl rfl ?_
    show Steps p.tables e below (T18.setTop (mkF m 23 #[.val (.ref a1), .val (.long q1), .second, .val (.long q2), .second, .val (.long q3), .second] [(.ref a1)])) _
    refine XT.lloadN X18.here hx rfl (hb hby dini_23) rfl ?_
    show Steps p.tables e below (T18.setTop (mkF m 24 #[.val (.ref a1), .val (.long q1), .second, .val (.long q2), .second, .val (.long q3), .second] [(.long q2), (.ref a1)])) _
    exact k)
  obtain ⟨T22, h22, X22, e22, W22, st22⟩ := putF X18 hx hZ hown (host := "") (Or.inl (hw _ (List.mem_of_getElem? (i := 30) rfl))) Via.refl e18 f19_2 f19_0 (Or.inr ⟨(hw _ (List.mem_of_getElem? (i := 31) rfl)), rfl, hnm⟩) (hw _ (List.mem_of_getElem? (i := 2) rfl)) (ty := .long) (by decide) rfl rfl (g := (mkF m 24 #[.val (.ref a1), .val (.long q1), .second, .val (.long q2), .second, .val (.long q3), .second] [(.long q2), (.ref a1)])) rfl rfl (hb hby dini_24)
  have F22 := f19_2.same W22
  have N22 := Fr.snoc X22 N18 g_a1
  have f23_0 := f19_0.wr W22
  have f23_2 := f19_3.other W22 (Or.inr (slot_ne (Or.inr (hw _ (List.mem_of_getElem? (i := 33) rfl))) (Or.inr (hw _ (List.mem_of_getElem? (i := 31) rfl))) (by decide) (t := .long) (t' := .long) (by decide) (by decide)))
  have f23_3 := F18.other W22 (Or.inr (slot_ne (Or.inr (hw _ (List.mem_of_getElem? (i := 29) rfl))) (Or.inr (hw _ (List.mem_of_getElem? (i := 31) rfl))) (by decide) (t := .long) (t' := .long) (by decide) (by decide)))
  have K24 := K20.wr W22 (Or.inl (List.mem_of_getElem? (i := 0) rfl))
  have Z22 : n0 ≤ h22.size := Nat.le_trans Z18 (Keep.of_wr W22).1
  have kp22 : k12 ≤ h22.size := Nat.le_trans kp18 (Keep.of_wr W22).1
  have pre25 : ∀ t, Steps p.tables e below (T22.setTop (mkF m 30 #[.val (.ref a1), .val (.long q1), .second, .val (.long q2), .second, .val (.long q3), .second] [(.long q3), (.ref a1)])) t → Steps p.tables e below (s₁.setTop (entryFrame m #[(.ref a1), (.long q1), (.long q2), (.long q3)] 7)) t := fun t k => pre21 t (by
    show Steps p.tables e below (T18.setTop (mkF m 24 #[.val (.ref a1), .val (.long q1), .second, .val (.long q2), .second, .val (.long q3), .second] [(.long q2), (.ref a1)])) _
    refine st22 _ ?_
    show Steps p.tables e below (T22.setTop (mkF m 27 #[.val (.ref a1), .val (.long q1), .second, .val (.long q2), .second, .val (.long q3), .second] [])) _
    refine XS.aloadN X22.here hx rfl (hb hby dini_27) rfl rfl ?_
    show Steps p.tables e below (T22.setTop (mkF m 28 #[.val (.ref a1), .val (.long q1), .second, .val (.long q2), .second, .val (.long q3), .second] [(.ref a1)])) _
    refine XT.lload X22.here hx rfl (hb hby dini_28) rfl ?_
    show Steps p.tables e below (T22.setTop (mkF m 30 #[.val (.ref a1), .val (.long q1), .second, .val (.long q2), .second, .val (.long q3), .second] [(.long q3), (.ref a1)])) _
    exact k)
  obtain ⟨T26, h26, X26, e26, W26, st26⟩ := putF X22 hx hZ hown (host := "") (Or.inl (hw _ (List.mem_of_getElem? (i := 32) rfl))) Via.refl e22 f23_2 f23_0 (Or.inr ⟨(hw _ (List.mem_of_getElem? (i := 33) rfl)), rfl, hnm⟩) (hw _ (List.mem_of_getElem? (i := 2) rfl)) (ty := .long) (by decide) rfl rfl (g := (mkF m 30 #[.val (.ref a1), .val (.long q1), .second, .val (.long q2), .second, .val (.long q3), .second] [(.long q3), (.ref a1)])) rfl rfl (hb hby dini_30)
  have F26 := f23_2.same W26
  have N26 := Fr.snoc X26 N22 g_a1
  have f27_0 := f23_0.wr W26
  have f27_2 := f23_3.other W26 (Or.inr (slot_ne (Or.inr (hw _ (List.mem_of_getElem? (i := 29) rfl))) (Or.inr (hw _ (List.mem_of_getElem? (i := 33) rfl))) (by decide) (t := .long) (t' := .long) (by decide) (by decide)))
  have f27_3 := F22.other W26 (Or.inr (slot_ne (Or.inr (hw _ (List.mem_of_getElem? (i := 31) rfl))) (Or.inr (hw _ (List.mem_of_getElem? (i := 33) rfl))) (by decide) (t := .long) (t' := .long) (by decide) (by decide)))
  have K28 := K24.wr W26 (Or.inl (List.mem_of_getElem? (i := 0) rfl))
  have Z26 : n0 ≤ h26.size := Nat.le_trans Z22 (Keep.of_wr W26).1
  have kp26 : k12 ≤ h26.size := Nat.le_trans kp22 (Keep.of_wr W26).1
  have pre29 : ∀ t, Steps p.tables e below (T26.setTop (mkF m 33 #[.val (.ref a1), .val (.long q1), .second, .val (.long q2), .second, .val (.long q3), .second] [])) t → Steps p.tables e below (s₁.setTop (entryFrame m #[(.ref a1), (.long q1), (.long q2), (.long q3)] 7)) t := fun t k => pre25 t (by
    show Steps p.tables e below (T22.setTop (mkF m 30 #[.val (.ref a1), .val (.long q1), .second, .val (.long q2), .second, .val (.long q3), .second] [(.long q3), (.ref a1)])) _
    refine st26 _ ?_
    show Steps p.tables e below (T26.setTop (mkF m 33 #[.val (.ref a1), .val (.long q1), .second, .val (.long q2), .second, .val (.long q3), .second] [])) _
    exact k)
  obtain ⟨fs, hr, hrun, hended, hW⟩ := X26.leaveW S12 (Nat.le_trans kp26 (Nat.le_of_eq (congrArg Array.size e26.symm))) (v := none) (fun _ => rfl)
  refine ⟨_, _, pre29 _ ?_, hrun, hended, _, _, rfl, ?_, hW.1, hW.2.1, hW.2.2.1, hW.2.2.2.mono (by decide) (by decide)⟩
  · exact X26.returnOut hx Bd.returns (hb hby dini_33) hr
  · show Q_ini Z a1 q1 q2 q3 u1 u2 u3 h0 n0 _ T26.heap _
    rw [e26]
    exact ⟨rfl, N26, K28, f27_2, f27_3, F26⟩
theorem deqh_0 : decode prog_64_method_5_code 0 = .ok (.aload_n 1, 1) := by decide +kernel
theorem deqh_1 : decode prog_64_method_5_code 1 = .ok (.instanceof 14, 3) := by decide +kernel
theorem deqh_4 : decode prog_64_method_5_code 4 = .ok (.ifCond .eq 48, 3) := by decide +kernel
theorem deqh_7 : decode prog_64_method_5_code 7 = .ok (.aload_n 1, 1) := by decide +kernel
theorem deqh_8 : decode prog_64_method_5_code 8 = .ok (.checkcast 14, 3) := by decide +kernel
theorem deqh_11 : decode prog_64_method_5_code 11 = .ok (.astore_n 2, 1) := by decide +kernel
theorem deqh_12 : decode prog_64_method_5_code 12 = .ok (.aload_n 0, 1) := by decide +kernel
theorem deqh_13 : decode prog_64_method_5_code 13 = .ok (.getfield 21, 3) := by decide +kernel
theorem deqh_16 : decode prog_64_method_5_code 16 = .ok (.aload_n 2, 1) := by decide +kernel
theorem deqh_17 : decode prog_64_method_5_code 17 = .ok (.getfield 21, 3) := by decide +kernel
theorem deqh_20 : decode prog_64_method_5_code 20 = .ok (.lcmp, 1) := by decide +kernel
theorem deqh_21 : decode prog_64_method_5_code 21 = .ok (.ifCond .ne 31, 3) := by decide +kernel
theorem deqh_24 : decode prog_64_method_5_code 24 = .ok (.aload_n 0, 1) := by decide +kernel
theorem deqh_25 : decode prog_64_method_5_code 25 = .ok (.getfield 25, 3) := by decide +kernel
theorem deqh_28 : decode prog_64_method_5_code 28 = .ok (.aload_n 2, 1) := by decide +kernel
theorem deqh_29 : decode prog_64_method_5_code 29 = .ok (.getfield 25, 3) := by decide +kernel
theorem deqh_32 : decode prog_64_method_5_code 32 = .ok (.lcmp, 1) := by decide +kernel
theorem deqh_33 : decode prog_64_method_5_code 33 = .ok (.ifCond .ne 19, 3) := by decide +kernel
theorem deqh_36 : decode prog_64_method_5_code 36 = .ok (.aload_n 0, 1) := by decide +kernel
theorem deqh_37 : decode prog_64_method_5_code 37 = .ok (.getfield 28, 3) := by decide +kernel
theorem deqh_40 : decode prog_64_method_5_code 40 = .ok (.aload_n 2, 1) := by decide +kernel
theorem deqh_41 : decode prog_64_method_5_code 41 = .ok (.getfield 28, 3) := by decide +kernel
theorem deqh_44 : decode prog_64_method_5_code 44 = .ok (.lcmp, 1) := by decide +kernel
theorem deqh_45 : decode prog_64_method_5_code 45 = .ok (.ifCond .ne 7, 3) := by decide +kernel
theorem deqh_48 : decode prog_64_method_5_code 48 = .ok (.iconst 1, 1) := by decide +kernel
theorem deqh_49 : decode prog_64_method_5_code 49 = .ok (.goto 4, 3) := by decide +kernel
theorem deqh_52 : decode prog_64_method_5_code 52 = .ok (.iconst 0, 1) := by decide +kernel
theorem deqh_53 : decode prog_64_method_5_code 53 = .ok (.ireturn, 1) := by decide +kernel
theorem pn_eqh : plainName "com/example/terse_broker/tersebroker/codec/Handshake" = true := by first | (simp [plainName, overriddenIn]; done) | decide +kernel
theorem ef_eqh (m : MethodId) (a1 : Addr) (a2 : Addr) : entryFrame m #[(.ref a1), (.ref a2)] 3 = (mkF m 0 #[.val (.ref a1), .val (.ref a2), .unset] []) := by first | (simp [entryFrame, mkF, argsToLocals, Value.category]; done) | rfl
def Q_eqh (Z : State) (a1 a2 : Addr) (x1 x2 x3 y1 y2 y3 : Int64) (h0 : Heap) (n0 : Nat) (v : Option Value) (h : Heap) (L : List Loc) : Prop := v = some (.int (own_eq x1 x2 x3 y1 y2 y3)) ∧ Fr n0 L ∧ h = h0
set_option maxRecDepth 65536 in
set_option maxHeartbeats 40000000 in
theorem rm_eqh (l : Launch) (Z : State) (a0 : Array Value) (hw : ∀ d ∈ tables_1, d.before a0 Z = true) (ws : List Jvm.Cond) (a1 a2 : Addr) (x1 x2 x3 y1 y2 y3 : Int64) (h0 : Heap) (n0 : Nat) (Z0 : n0 ≤ h0.size) (E2 : Exa Z h0 a2 "com/example/terse_broker/tersebroker/codec/Handshake") (F1 : Fld Z h0 a1 "com/example/terse_broker/tersebroker/codec/Handshake" "maxFragmentSize" "J" (.long x1)) (G1 : Fld Z h0 a2 "com/example/terse_broker/tersebroker/codec/Handshake" "maxFragmentSize" "J" (.long y1)) (F2 : Fld Z h0 a1 "com/example/terse_broker/tersebroker/codec/Handshake" "maxAggregateSize" "J" (.long x2)) (G2 : Fld Z h0 a2 "com/example/terse_broker/tersebroker/codec/Handshake" "maxAggregateSize" "J" (.long y2)) (F3 : Fld Z h0 a1 "com/example/terse_broker/tersebroker/codec/Handshake" "ackTimeoutMillis" "J" (.long x3)) (G3 : Fld Z h0 a2 "com/example/terse_broker/tersebroker/codec/Handshake" "ackTimeoutMillis" "J" (.long y3)) :
    MetFree l (⟨"com/example/terse_broker/tersebroker/codec/Handshake", "equals", "(Ljava/lang/Object;)Z"⟩ : MethodName) (head1 (Jvm.Cond.code (⟨"com/example/terse_broker/tersebroker/codec/Handshake", "equals", "(Ljava/lang/Object;)Z"⟩ : MethodName) prog_64_method_5_code 3 (some .boolean) :: ws) ({ frames := 0, cells := 0, slots := 0, locals := 0 } : Room)) (fun a U => a = #[(.ref a1), (.ref a2)] ∧ Z.Warmed39 U.vm ∧ U.heap = h0) (fun _ _ _ _ _ => True) (fun _ U o U' => ∃ v L, o = .returned v ∧ Q_eqh Z a1 a2 x1 x2 x3 y1 y2 y3 h0 n0 v U'.heap L ∧ FrameEnd U o U' L ({ frames := 0, cells := 0, slots := 0, locals := 0 } : Room).cells ({ frames := 0, cells := 0, slots := 0, locals := 0 } : Room).slots) := by
  refine MetFree.of_bodySF (plainFor_of_name pn_eqh) hisR ?_
  intro p e s m args below meth c s₁ Bd hml0 hP hK
  obtain ⟨rfl, hZ, hh⟩ := hP
  have hx := Bd.exec
  have hby := Bd.bytes
  have hml : c.maxLocals = 3 := hml0
  have hown : s.vm.findClass "com/example/terse_broker/tersebroker/codec/Handshake" = some m.cls := findClass_of_methodNamed Bd.named
  have hnm := (name_of_methodNamed Bd.named Bd.method).1
  have X0 : Stand p l e ({ frames := 0, cells := 0, slots := 0, locals := 0 } : Room) s m #[(.ref a1), (.ref a2)] below meth c s₁ [] 0 0 := Stand.of_body Bd
  have e0 : s₁.heap = h0 := by rw [← hh, Bd.state]; rfl
  have N0 := Fr.nil n0
  have pre0 : ∀ t, Steps p.tables e below (s₁.setTop (mkF m 0 #[.val (.ref a1), .val (.ref a2), .unset] [])) t → Steps p.tables e below (s₁.setTop (entryFrame m #[(.ref a1), (.ref a2)] 3)) t := fun t k => castTop (ef_eqh m a1 a2) k
  have pre2 : ∀ t, Steps p.tables e below (s₁.setTop (mkF m 1 #[.val (.ref a1), .val (.ref a2), .unset] [(.ref a2)])) t → Steps p.tables e below (s₁.setTop (entryFrame m #[(.ref a1), (.ref a2)] 3)) t := fun t k => pre0 t (by
    show Steps p.tables e below (s₁.setTop (mkF m 0 #[.val (.ref a1), .val (.ref a2), .unset] [])) _
    refine XS.aloadN X0.here hx rfl (hb hby deqh_0) rfl rfl ?_
    show Steps p.tables e below (s₁.setTop (mkF m 1 #[.val (.ref a1), .val (.ref a2), .unset] [(.ref a2)])) _
    exact k)
  obtain ⟨T3, X3, e3, st3⟩ := instY X0 hx hZ hown (hw _ (List.mem_of_getElem? (i := 47) rfl)) e0 (Ins.of_exa E2 (hw _ (List.mem_of_getElem? (i := 48) rfl))) (g := (mkF m 1 #[.val (.ref a1), .val (.ref a2), .unset] [(.ref a2)])) rfl rfl (hb hby deqh_1)
  have pre4 : ∀ t, Steps p.tables e below (T3.setTop (mkF m 8 #[.val (.ref a1), .val (.ref a2), .unset] [(.ref a2)])) t → Steps p.tables e below (s₁.setTop (entryFrame m #[(.ref a1), (.ref a2)] 3)) t := fun t k => pre2 t (by
    show Steps p.tables e below (s₁.setTop (mkF m 1 #[.val (.ref a1), .val (.ref a2), .unset] [(.ref a2)])) _
    refine st3 _ ?_
    show Steps p.tables e below (T3.setTop (mkF m 4 #[.val (.ref a1), .val (.ref a2), .unset] [(.int (1 : Int32))])) _
    refine XS.ifNo X3.here hx rfl (hb hby deqh_4) rfl (XT.i0_eq_f (by decide)) ?_
    show Steps p.tables e below (T3.setTop (mkF m 7 #[.val (.ref a1), .val (.ref a2), .unset] [])) _
    refine XS.aloadN X3.here hx rfl (hb hby deqh_7) rfl rfl ?_
    show Steps p.tables e below (T3.setTop (mkF m 8 #[.val (.ref a1), .val (.ref a2), .unset] [(.ref a2)])) _
    exact k)
  obtain ⟨T5, X5, e5, st5⟩ := castY X3 hx hZ hown (hw _ (List.mem_of_getElem? (i := 47) rfl)) e3 (Ins.of_exa E2 (hw _ (List.mem_of_getElem? (i := 48) rfl))) (g := (mkF m 8 #[.val (.ref a1), .val (.ref a2), .unset] [(.ref a2)])) rfl rfl (hb hby deqh_8)
  have pre6 : ∀ t, Steps p.tables e below (T5.setTop (mkF m 13 #[.val (.ref a1), .val (.ref a2), .val (.ref a2)] [(.ref a1)])) t → Steps p.tables e below (s₁.setTop (entryFrame m #[(.ref a1), (.ref a2)] 3)) t := fun t k => pre4 t (by
    show Steps p.tables e below (T3.setTop (mkF m 8 #[.val (.ref a1), .val (.ref a2), .unset] [(.ref a2)])) _
    refine st5 _ ?_
    show Steps p.tables e below (T5.setTop (mkF m 11 #[.val (.ref a1), .val (.ref a2), .unset] [(.ref a2)])) _
    refine XS.astoreN X5.here hx rfl (hb hby deqh_11) rfl rfl (l' := #[.val (.ref a1), .val (.ref a2), .val (.ref a2)]) rfl ?_
    show Steps p.tables e below (T5.setTop (mkF m 12 #[.val (.ref a1), .val (.ref a2), .val (.ref a2)] [])) _
    refine XS.aloadN X5.here hx rfl (hb hby deqh_12) rfl rfl ?_
    show Steps p.tables e below (T5.setTop (mkF m 13 #[.val (.ref a1), .val (.ref a2), .val (.ref a2)] [(.ref a1)])) _
    exact k)
  obtain ⟨T7, X7, e7, st7⟩ := getF X5 hx hZ hown (host := "") (Or.inl (hw _ (List.mem_of_getElem? (i := 28) rfl))) Via.refl e5 F1 (g := (mkF m 13 #[.val (.ref a1), .val (.ref a2), .val (.ref a2)] [(.ref a1)])) rfl rfl (hb hby deqh_13)
  have pre8 : ∀ t, Steps p.tables e below (T7.setTop (mkF m 17 #[.val (.ref a1), .val (.ref a2), .val (.ref a2)] [(.ref a2), (.long x1)])) t → Steps p.tables e below (s₁.setTop (entryFrame m #[(.ref a1), (.ref a2)] 3)) t := fun t k => pre6 t (by
    show Steps p.tables e below (T5.setTop (mkF m 13 #[.val (.ref a1), .val (.ref a2), .val (.ref a2)] [(.ref a1)])) _
    refine st7 _ ?_
    show Steps p.tables e below (T7.setTop (mkF m 16 #[.val (.ref a1), .val (.ref a2), .val (.ref a2)] [(.long x1)])) _
    refine XS.aloadN X7.here hx rfl (hb hby deqh_16) rfl rfl ?_
    show Steps p.tables e below (T7.setTop (mkF m 17 #[.val (.ref a1), .val (.ref a2), .val (.ref a2)] [(.ref a2), (.long x1)])) _
    exact k)
  obtain ⟨T9, X9, e9, st9⟩ := getF X7 hx hZ hown (host := "") (Or.inl (hw _ (List.mem_of_getElem? (i := 28) rfl))) Via.refl e7 G1 (g := (mkF m 17 #[.val (.ref a1), .val (.ref a2), .val (.ref a2)] [(.ref a2), (.long x1)])) rfl rfl (hb hby deqh_17)
  have pre10 : ∀ t, Steps p.tables e below (T9.setTop (mkF m 21 #[.val (.ref a1), .val (.ref a2), .val (.ref a2)] [(.int (XT.cmpL x1 y1))])) t → Steps p.tables e below (s₁.setTop (entryFrame m #[(.ref a1), (.ref a2)] 3)) t := fun t k => pre8 t (by
    show Steps p.tables e below (T7.setTop (mkF m 17 #[.val (.ref a1), .val (.ref a2), .val (.ref a2)] [(.ref a2), (.long x1)])) _
    refine st9 _ ?_
    show Steps p.tables e below (T9.setTop (mkF m 20 #[.val (.ref a1), .val (.ref a2), .val (.ref a2)] [(.long y1), (.long x1)])) _
    refine XT.lcmp X9.here hx rfl (hb hby deqh_20) rfl ?_
    show Steps p.tables e below (T9.setTop (mkF m 21 #[.val (.ref a1), .val (.ref a2), .val (.ref a2)] [(.int (XT.cmpL x1 y1))])) _
    exact k)
  by_cases hc0 : x1 = y1
  · skip
    have pre11 : ∀ t, Steps p.tables e below (T9.setTop (mkF m 25 #[.val (.ref a1), .val (.ref a2), .val (.ref a2)] [(.ref a1)])) t → Steps p.tables e below (s₁.setTop (entryFrame m #[(.ref a1), (.ref a2)] 3)) t := fun t k => pre10 t (by
      show Steps p.tables e below (T9.setTop (mkF m 21 #[.val (.ref a1), .val (.ref a2), .val (.ref a2)] [(.int (XT.cmpL x1 y1))])) _
      refine XS.ifNo X9.here hx rfl (hb hby deqh_21) rfl (XT.ll_ne_f hc0) ?_
      show Steps p.tables e below (T9.setTop (mkF m 24 #[.val (.ref a1), .val (.ref a2), .val (.ref a2)] [])) _
      refine XS.aloadN X9.here hx rfl (hb hby deqh_24) rfl rfl ?_
      show Steps p.tables e below (T9.setTop (mkF m 25 #[.val (.ref a1), .val (.ref a2), .val (.ref a2)] [(.ref a1)])) _
      exact k)
    obtain ⟨T12, X12, e12, st12⟩ := getF X9 hx hZ hown (host := "") (Or.inl (hw _ (List.mem_of_getElem? (i := 30) rfl))) Via.refl e9 F2 (g := (mkF m 25 #[.val (.ref a1), .val (.ref a2), .val (.ref a2)] [(.ref a1)])) rfl rfl (hb hby deqh_25)
    have pre13 : ∀ t, Steps p.tables e below (T12.setTop (mkF m 29 #[.val (.ref a1), .val (.ref a2), .val (.ref a2)] [(.ref a2), (.long x2)])) t → Steps p.tables e below (s₁.setTop (entryFrame m #[(.ref a1), (.ref a2)] 3)) t := fun t k => pre11 t (by
      show Steps p.tables e below (T9.setTop (mkF m 25 #[.val (.ref a1), .val (.ref a2), .val (.ref a2)] [(.ref a1)])) _
      refine st12 _ ?_
      show Steps p.tables e below (T12.setTop (mkF m 28 #[.val (.ref a1), .val (.ref a2), .val (.ref a2)] [(.long x2)])) _
      refine XS.aloadN X12.here hx rfl (hb hby deqh_28) rfl rfl ?_
      show Steps p.tables e below (T12.setTop (mkF m 29 #[.val (.ref a1), .val (.ref a2), .val (.ref a2)] [(.ref a2), (.long x2)])) _
      exact k)
    obtain ⟨T14, X14, e14, st14⟩ := getF X12 hx hZ hown (host := "") (Or.inl (hw _ (List.mem_of_getElem? (i := 30) rfl))) Via.refl e12 G2 (g := (mkF m 29 #[.val (.ref a1), .val (.ref a2), .val (.ref a2)] [(.ref a2), (.long x2)])) rfl rfl (hb hby deqh_29)
    have pre15 : ∀ t, Steps p.tables e below (T14.setTop (mkF m 33 #[.val (.ref a1), .val (.ref a2), .val (.ref a2)] [(.int (XT.cmpL x2 y2))])) t → Steps p.tables e below (s₁.setTop (entryFrame m #[(.ref a1), (.ref a2)] 3)) t := fun t k => pre13 t (by
      show Steps p.tables e below (T12.setTop (mkF m 29 #[.val (.ref a1), .val (.ref a2), .val (.ref a2)] [(.ref a2), (.long x2)])) _
      refine st14 _ ?_
      show Steps p.tables e below (T14.setTop (mkF m 32 #[.val (.ref a1), .val (.ref a2), .val (.ref a2)] [(.long y2), (.long x2)])) _
      refine XT.lcmp X14.here hx rfl (hb hby deqh_32) rfl ?_
      show Steps p.tables e below (T14.setTop (mkF m 33 #[.val (.ref a1), .val (.ref a2), .val (.ref a2)] [(.int (XT.cmpL x2 y2))])) _
      exact k)
    by_cases hc1 : x2 = y2
    · skip
      have pre16 : ∀ t, Steps p.tables e below (T14.setTop (mkF m 37 #[.val (.ref a1), .val (.ref a2), .val (.ref a2)] [(.ref a1)])) t → Steps p.tables e below (s₁.setTop (entryFrame m #[(.ref a1), (.ref a2)] 3)) t := fun t k => pre15 t (by
        show Steps p.tables e below (T14.setTop (mkF m 33 #[.val (.ref a1), .val (.ref a2), .val (.ref a2)] [(.int (XT.cmpL x2 y2))])) _
        refine XS.ifNo X14.here hx rfl (hb hby deqh_33) rfl (XT.ll_ne_f hc1) ?_
        show Steps p.tables e below (T14.setTop (mkF m 36 #[.val (.ref a1), .val (.ref a2), .val (.ref a2)] [])) _
        refine XS.aloadN X14.here hx rfl (hb hby deqh_36) rfl rfl ?_
        show Steps p.tables e below (T14.setTop (mkF m 37 #[.val (.ref a1), .val (.ref a2), .val (.ref a2)] [(.ref a1)])) _
        exact k)
      obtain ⟨T17, X17, e17, st17⟩ := getF X14 hx hZ hown (host := "") (Or.inl (hw _ (List.mem_of_getElem? (i := 32) rfl))) Via.refl e14 F3 (g := (mkF m 37 #[.val (.ref a1), .val (.ref a2), .val (.ref a2)] [(.ref a1)])) rfl rfl (hb hby deqh_37)
      have pre18 : ∀ t, Steps p.tables e below (T17.setTop (mkF m 41 #[.val (.ref a1), .val (.ref a2), .val (.ref a2)] [(.ref a2), (.long x3)])) t → Steps p.tables e below (s₁.setTop (entryFrame m #[(.ref a1), (.ref a2)] 3)) t := fun t k => pre16 t (by
        show Steps p.tables e below (T14.setTop (mkF m 37 #[.val (.ref a1), .val (.ref a2), .val (.ref a2)] [(.ref a1)])) _
        refine st17 _ ?_
        show Steps p.tables e below (T17.setTop (mkF m 40 #[.val (.ref a1), .val (.ref a2), .val (.ref a2)] [(.long x3)])) _
        refine XS.aloadN X17.here hx rfl (hb hby deqh_40) rfl rfl ?_
        show Steps p.tables e below (T17.setTop (mkF m 41 #[.val (.ref a1), .val (.ref a2), .val (.ref a2)] [(.ref a2), (.long x3)])) _
        exact k)
      obtain ⟨T19, X19, e19, st19⟩ := getF X17 hx hZ hown (host := "") (Or.inl (hw _ (List.mem_of_getElem? (i := 32) rfl))) Via.refl e17 G3 (g := (mkF m 41 #[.val (.ref a1), .val (.ref a2), .val (.ref a2)] [(.ref a2), (.long x3)])) rfl rfl (hb hby deqh_41)
      have pre20 : ∀ t, Steps p.tables e below (T19.setTop (mkF m 45 #[.val (.ref a1), .val (.ref a2), .val (.ref a2)] [(.int (XT.cmpL x3 y3))])) t → Steps p.tables e below (s₁.setTop (entryFrame m #[(.ref a1), (.ref a2)] 3)) t := fun t k => pre18 t (by
        show Steps p.tables e below (T17.setTop (mkF m 41 #[.val (.ref a1), .val (.ref a2), .val (.ref a2)] [(.ref a2), (.long x3)])) _
        refine st19 _ ?_
        show Steps p.tables e below (T19.setTop (mkF m 44 #[.val (.ref a1), .val (.ref a2), .val (.ref a2)] [(.long y3), (.long x3)])) _
        refine XT.lcmp X19.here hx rfl (hb hby deqh_44) rfl ?_
        show Steps p.tables e below (T19.setTop (mkF m 45 #[.val (.ref a1), .val (.ref a2), .val (.ref a2)] [(.int (XT.cmpL x3 y3))])) _
        exact k)
      by_cases hc2 : x3 = y3
      · skip
        have hf : own_eq x1 x2 x3 y1 y2 y3 = 1 := by simp [own_eq, hc0, hc1, hc2]
        have pre21 : ∀ t, Steps p.tables e below (T19.setTop (mkF m 53 #[.val (.ref a1), .val (.ref a2), .val (.ref a2)] [(.int (1 : Int32))])) t → Steps p.tables e below (s₁.setTop (entryFrame m #[(.ref a1), (.ref a2)] 3)) t := fun t k => pre20 t (by
          show Steps p.tables e below (T19.setTop (mkF m 45 #[.val (.ref a1), .val (.ref a2), .val (.ref a2)] [(.int (XT.cmpL x3 y3))])) _
          refine XS.ifNo X19.here hx rfl (hb hby deqh_45) rfl (XT.ll_ne_f hc2) ?_
          show Steps p.tables e below (T19.setTop (mkF m 48 #[.val (.ref a1), .val (.ref a2), .val (.ref a2)] [])) _
          refine XS.iconst X19.here hx rfl (hb hby deqh_48) ?_
          show Steps p.tables e below (T19.setTop (mkF m 49 #[.val (.ref a1), .val (.ref a2), .val (.ref a2)] [(.int (1 : Int32))])) _
          refine XS.goto X19.here hx rfl (pc0 := 49) (pc' := 53) rfl (hb hby deqh_49) (by decide) (by decide) ?_
          show Steps p.tables e below (T19.setTop (mkF m 53 #[.val (.ref a1), .val (.ref a2), .val (.ref a2)] [(.int (1 : Int32))])) _
          exact k)
        obtain ⟨fs, hr, hrun, hended, hW, hsame⟩ := X19.leave (v := some (.int (1 : Int32))) (fun h => by rw [Bd.returns] at h; cases h)
        refine ⟨_, _, pre21 _ ?_, hrun, hended, _, _, rfl, ?_, ⟨_, rfl⟩, hW, hsame.mono (by decide) (by decide)⟩
        · exact retN X19 hx (t := .boolean) Bd.returns (by simp) (hb hby deqh_53) hr
        · show Q_eqh Z a1 a2 x1 x2 x3 y1 y2 y3 h0 n0 _ T19.heap _
          unfold Q_eqh; rw [hf]
          rw [e19]
          exact ⟨rfl, N0, rfl⟩
      · skip
        have hf : own_eq x1 x2 x3 y1 y2 y3 = 0 := by simp [own_eq, hc0, hc1, hc2]
        have pre21 : ∀ t, Steps p.tables e below (T19.setTop (mkF m 53 #[.val (.ref a1), .val (.ref a2), .val (.ref a2)] [(.int (0 : Int32))])) t → Steps p.tables e below (s₁.setTop (entryFrame m #[(.ref a1), (.ref a2)] 3)) t := fun t k => pre20 t (by
          show Steps p.tables e below (T19.setTop (mkF m 45 #[.val (.ref a1), .val (.ref a2), .val (.ref a2)] [(.int (XT.cmpL x3 y3))])) _
          refine XS.ifYes X19.here hx rfl (pc0 := 45) (pc' := 52) rfl (hb hby deqh_45) rfl (XT.ll_ne_t hc2) (by decide) (by decide) ?_
          show Steps p.tables e below (T19.setTop (mkF m 52 #[.val (.ref a1), .val (.ref a2), .val (.ref a2)] [])) _
          refine XS.iconst X19.here hx rfl (hb hby deqh_52) ?_
          show Steps p.tables e below (T19.setTop (mkF m 53 #[.val (.ref a1), .val (.ref a2), .val (.ref a2)] [(.int (0 : Int32))])) _
          exact k)
        obtain ⟨fs, hr, hrun, hended, hW, hsame⟩ := X19.leave (v := some (.int (0 : Int32))) (fun h => by rw [Bd.returns] at h; cases h)
        refine ⟨_, _, pre21 _ ?_, hrun, hended, _, _, rfl, ?_, ⟨_, rfl⟩, hW, hsame.mono (by decide) (by decide)⟩
        · exact retN X19 hx (t := .boolean) Bd.returns (by simp) (hb hby deqh_53) hr
        · show Q_eqh Z a1 a2 x1 x2 x3 y1 y2 y3 h0 n0 _ T19.heap _
          unfold Q_eqh; rw [hf]
          rw [e19]
          exact ⟨rfl, N0, rfl⟩
    · skip
      have hf : own_eq x1 x2 x3 y1 y2 y3 = 0 := by simp [own_eq, hc0, hc1]
      have pre16 : ∀ t, Steps p.tables e below (T14.setTop (mkF m 53 #[.val (.ref a1), .val (.ref a2), .val (.ref a2)] [(.int (0 : Int32))])) t → Steps p.tables e below (s₁.setTop (entryFrame m #[(.ref a1), (.ref a2)] 3)) t := fun t k => pre15 t (by
        show Steps p.tables e below (T14.setTop (mkF m 33 #[.val (.ref a1), .val (.ref a2), .val (.ref a2)] [(.int (XT.cmpL x2 y2))])) _
        refine XS.ifYes X14.here hx rfl (pc0 := 33) (pc' := 52) rfl (hb hby deqh_33) rfl (XT.ll_ne_t hc1) (by decide) (by decide) ?_
        show Steps p.tables e below (T14.setTop (mkF m 52 #[.val (.ref a1), .val (.ref a2), .val (.ref a2)] [])) _
        refine XS.iconst X14.here hx rfl (hb hby deqh_52) ?_
        show Steps p.tables e below (T14.setTop (mkF m 53 #[.val (.ref a1), .val (.ref a2), .val (.ref a2)] [(.int (0 : Int32))])) _
        exact k)
      obtain ⟨fs, hr, hrun, hended, hW, hsame⟩ := X14.leave (v := some (.int (0 : Int32))) (fun h => by rw [Bd.returns] at h; cases h)
      refine ⟨_, _, pre16 _ ?_, hrun, hended, _, _, rfl, ?_, ⟨_, rfl⟩, hW, hsame.mono (by decide) (by decide)⟩
      · exact retN X14 hx (t := .boolean) Bd.returns (by simp) (hb hby deqh_53) hr
      · show Q_eqh Z a1 a2 x1 x2 x3 y1 y2 y3 h0 n0 _ T14.heap _
        unfold Q_eqh; rw [hf]
        rw [e14]
        exact ⟨rfl, N0, rfl⟩
  · skip
    have hf : own_eq x1 x2 x3 y1 y2 y3 = 0 := by simp [own_eq, hc0]
    have pre11 : ∀ t, Steps p.tables e below (T9.setTop (mkF m 53 #[.val (.ref a1), .val (.ref a2), .val (.ref a2)] [(.int (0 : Int32))])) t → Steps p.tables e below (s₁.setTop (entryFrame m #[(.ref a1), (.ref a2)] 3)) t := fun t k => pre10 t (by
      show Steps p.tables e below (T9.setTop (mkF m 21 #[.val (.ref a1), .val (.ref a2), .val (.ref a2)] [(.int (XT.cmpL x1 y1))])) _
      refine XS.ifYes X9.here hx rfl (pc0 := 21) (pc' := 52) rfl (hb hby deqh_21) rfl (XT.ll_ne_t hc0) (by decide) (by decide) ?_
      show Steps p.tables e below (T9.setTop (mkF m 52 #[.val (.ref a1), .val (.ref a2), .val (.ref a2)] [])) _
      refine XS.iconst X9.here hx rfl (hb hby deqh_52) ?_
      show Steps p.tables e below (T9.setTop (mkF m 53 #[.val (.ref a1), .val (.ref a2), .val (.ref a2)] [(.int (0 : Int32))])) _
      exact k)
    obtain ⟨fs, hr, hrun, hended, hW, hsame⟩ := X9.leave (v := some (.int (0 : Int32))) (fun h => by rw [Bd.returns] at h; cases h)
    refine ⟨_, _, pre11 _ ?_, hrun, hended, _, _, rfl, ?_, ⟨_, rfl⟩, hW, hsame.mono (by decide) (by decide)⟩
    · exact retN X9 hx (t := .boolean) Bd.returns (by simp) (hb hby deqh_53) hr
    · show Q_eqh Z a1 a2 x1 x2 x3 y1 y2 y3 h0 n0 _ T9.heap _
      unfold Q_eqh; rw [hf]
      rw [e9]
      exact ⟨rfl, N0, rfl⟩
theorem deqn_0 : decode prog_64_method_5_code 0 = .ok (.aload_n 1, 1) := by decide +kernel
theorem deqn_1 : decode prog_64_method_5_code 1 = .ok (.instanceof 14, 3) := by decide +kernel
theorem deqn_4 : decode prog_64_method_5_code 4 = .ok (.ifCond .eq 48, 3) := by decide +kernel
theorem deqn_52 : decode prog_64_method_5_code 52 = .ok (.iconst 0, 1) := by decide +kernel
theorem deqn_53 : decode prog_64_method_5_code 53 = .ok (.ireturn, 1) := by decide +kernel
theorem pn_eqn : plainName "com/example/terse_broker/tersebroker/codec/Handshake" = true := by first | (simp [plainName, overriddenIn]; done) | decide +kernel
theorem ef_eqn (m : MethodId) (a1 : Addr) : entryFrame m #[(.ref a1), .null] 3 = (mkF m 0 #[.val (.ref a1), .val .null, .unset] []) := by first | (simp [entryFrame, mkF, argsToLocals, Value.category]; done) | rfl
def Q_eqn (Z : State) (a1 : Addr) (h0 : Heap) (n0 : Nat) (v : Option Value) (h : Heap) (L : List Loc) : Prop := v = some (.int 0) ∧ Fr n0 L ∧ h = h0
set_option maxRecDepth 65536 in
set_option maxHeartbeats 40000000 in
theorem rm_eqn (l : Launch) (Z : State) (a0 : Array Value) (hw : ∀ d ∈ tables_1, d.before a0 Z = true) (ws : List Jvm.Cond) (a1 : Addr) (h0 : Heap) (n0 : Nat) (Z0 : n0 ≤ h0.size)  :
    MetFree l (⟨"com/example/terse_broker/tersebroker/codec/Handshake", "equals", "(Ljava/lang/Object;)Z"⟩ : MethodName) (head1 (Jvm.Cond.code (⟨"com/example/terse_broker/tersebroker/codec/Handshake", "equals", "(Ljava/lang/Object;)Z"⟩ : MethodName) prog_64_method_5_code 3 (some .boolean) :: ws) ({ frames := 0, cells := 0, slots := 0, locals := 0 } : Room)) (fun a U => a = #[(.ref a1), .null] ∧ Z.Warmed39 U.vm ∧ U.heap = h0) (fun _ _ _ _ _ => True) (fun _ U o U' => ∃ v L, o = .returned v ∧ Q_eqn Z a1 h0 n0 v U'.heap L ∧ FrameEnd U o U' L ({ frames := 0, cells := 0, slots := 0, locals := 0 } : Room).cells ({ frames := 0, cells := 0, slots := 0, locals := 0 } : Room).slots) := by
  refine MetFree.of_bodySF (plainFor_of_name pn_eqn) hisR ?_
  intro p e s m args below meth c s₁ Bd hml0 hP hK
  obtain ⟨rfl, hZ, hh⟩ := hP
  have hx := Bd.exec
  have hby := Bd.bytes
  have hml : c.maxLocals = 3 := hml0
  have hown : s.vm.findClass "com/example/terse_broker/tersebroker/codec/Handshake" = some m.cls := findClass_of_methodNamed Bd.named
  have hnm := (name_of_methodNamed Bd.named Bd.method).1
  have X0 : Stand p l e ({ frames := 0, cells := 0, slots := 0, locals := 0 } : Room) s m #[(.ref a1), .null] below meth c s₁ [] 0 0 := Stand.of_body Bd
  have e0 : s₁.heap = h0 := by rw [← hh, Bd.state]; rfl
  have N0 := Fr.nil n0
  have pre0 : ∀ t, Steps p.tables e below (s₁.setTop (mkF m 0 #[.val (.ref a1), .val .null, .unset] [])) t → Steps p.tables e below (s₁.setTop (entryFrame m #[(.ref a1), .null] 3)) t := fun t k => castTop (ef_eqn m a1) k
  have pre2 : ∀ t, Steps p.tables e below (s₁.setTop (mkF m 53 #[.val (.ref a1), .val .null, .unset] [(.int (0 : Int32))])) t → Steps p.tables e below (s₁.setTop (entryFrame m #[(.ref a1), .null] 3)) t := fun t k => pre0 t (by
    show Steps p.tables e below (s₁.setTop (mkF m 0 #[.val (.ref a1), .val .null, .unset] [])) _
    refine XS.aloadN X0.here hx rfl (hb hby deqn_0) rfl rfl ?_
    show Steps p.tables e below (s₁.setTop (mkF m 1 #[.val (.ref a1), .val .null, .unset] [.null])) _
    refine X0.instanceofNull hx (g := (mkF m 1 #[.val (.ref a1), .val .null, .unset] [.null])) rfl (rest := []) rfl (hb hby deqn_1) _ ?_
    show Steps p.tables e below (s₁.setTop (mkF m 4 #[.val (.ref a1), .val .null, .unset] [(.int (0 : Int32))])) _
    refine XS.ifYes X0.here hx rfl (pc0 := 4) (pc' := 52) rfl (hb hby deqn_4) rfl (XT.i0_eq_t rfl) (by decide) (by decide) ?_
    show Steps p.tables e below (s₁.setTop (mkF m 52 #[.val (.ref a1), .val .null, .unset] [])) _
    refine XS.iconst X0.here hx rfl (hb hby deqn_52) ?_
    show Steps p.tables e below (s₁.setTop (mkF m 53 #[.val (.ref a1), .val .null, .unset] [(.int (0 : Int32))])) _
    exact k)
  obtain ⟨fs, hr, hrun, hended, hW, hsame⟩ := X0.leave (v := some (.int (0 : Int32))) (fun h => by rw [Bd.returns] at h; cases h)
  refine ⟨_, _, pre2 _ ?_, hrun, hended, _, _, rfl, ?_, ⟨_, rfl⟩, hW, hsame.mono (by decide) (by decide)⟩
  · exact retN X0 hx (t := .boolean) Bd.returns (by simp) (hb hby deqn_53) hr
  · show Q_eqn Z a1 h0 n0 _ s₁.heap _
    rw [e0]
    exact ⟨rfl, N0, rfl⟩
theorem deql_0 : decode prog_64_method_5_code 0 = .ok (.aload_n 1, 1) := by decide +kernel
theorem deql_1 : decode prog_64_method_5_code 1 = .ok (.instanceof 14, 3) := by decide +kernel
theorem deql_4 : decode prog_64_method_5_code 4 = .ok (.ifCond .eq 48, 3) := by decide +kernel
theorem deql_52 : decode prog_64_method_5_code 52 = .ok (.iconst 0, 1) := by decide +kernel
theorem deql_53 : decode prog_64_method_5_code 53 = .ok (.ireturn, 1) := by decide +kernel
theorem pn_eql : plainName "com/example/terse_broker/tersebroker/codec/Handshake" = true := by first | (simp [plainName, overriddenIn]; done) | decide +kernel
theorem ef_eql (m : MethodId) (a1 : Addr) (a2 : Addr) : entryFrame m #[(.ref a1), (.ref a2)] 3 = (mkF m 0 #[.val (.ref a1), .val (.ref a2), .unset] []) := by first | (simp [entryFrame, mkF, argsToLocals, Value.category]; done) | rfl
def Q_eql (Z : State) (a1 a2 : Addr) (h0 : Heap) (n0 : Nat) (v : Option Value) (h : Heap) (L : List Loc) : Prop := v = some (.int 0) ∧ Fr n0 L ∧ h = h0
set_option maxRecDepth 65536 in
set_option maxHeartbeats 40000000 in
theorem rm_eql (l : Launch) (Z : State) (a0 : Array Value) (hw : ∀ d ∈ tables_1, d.before a0 Z = true) (ws : List Jvm.Cond) (a1 a2 : Addr) (h0 : Heap) (n0 : Nat) (Z0 : n0 ≤ h0.size) (E2 : Exa Z h0 a2 "java/lang/Long") :
    MetFree l (⟨"com/example/terse_broker/tersebroker/codec/Handshake", "equals", "(Ljava/lang/Object;)Z"⟩ : MethodName) (head1 (Jvm.Cond.code (⟨"com/example/terse_broker/tersebroker/codec/Handshake", "equals", "(Ljava/lang/Object;)Z"⟩ : MethodName) prog_64_method_5_code 3 (some .boolean) :: ws) ({ frames := 0, cells := 0, slots := 0, locals := 0 } : Room)) (fun a U => a = #[(.ref a1), (.ref a2)] ∧ Z.Warmed39 U.vm ∧ U.heap = h0) (fun _ _ _ _ _ => True) (fun _ U o U' => ∃ v L, o = .returned v ∧ Q_eql Z a1 a2 h0 n0 v U'.heap L ∧ FrameEnd U o U' L ({ frames := 0, cells := 0, slots := 0, locals := 0 } : Room).cells ({ frames := 0, cells := 0, slots := 0, locals := 0 } : Room).slots) := by
  refine MetFree.of_bodySF (plainFor_of_name pn_eql) hisR ?_
  intro p e s m args below meth c s₁ Bd hml0 hP hK
  obtain ⟨rfl, hZ, hh⟩ := hP
  have hx := Bd.exec
  have hby := Bd.bytes
  have hml : c.maxLocals = 3 := hml0
  have hown : s.vm.findClass "com/example/terse_broker/tersebroker/codec/Handshake" = some m.cls := findClass_of_methodNamed Bd.named
  have hnm := (name_of_methodNamed Bd.named Bd.method).1
  have X0 : Stand p l e ({ frames := 0, cells := 0, slots := 0, locals := 0 } : Room) s m #[(.ref a1), (.ref a2)] below meth c s₁ [] 0 0 := Stand.of_body Bd
  have e0 : s₁.heap = h0 := by rw [← hh, Bd.state]; rfl
  have N0 := Fr.nil n0
  have pre0 : ∀ t, Steps p.tables e below (s₁.setTop (mkF m 0 #[.val (.ref a1), .val (.ref a2), .unset] [])) t → Steps p.tables e below (s₁.setTop (entryFrame m #[(.ref a1), (.ref a2)] 3)) t := fun t k => castTop (ef_eql m a1 a2) k
  have pre2 : ∀ t, Steps p.tables e below (s₁.setTop (mkF m 1 #[.val (.ref a1), .val (.ref a2), .unset] [(.ref a2)])) t → Steps p.tables e below (s₁.setTop (entryFrame m #[(.ref a1), (.ref a2)] 3)) t := fun t k => pre0 t (by
    show Steps p.tables e below (s₁.setTop (mkF m 0 #[.val (.ref a1), .val (.ref a2), .unset] [])) _
    refine XS.aloadN X0.here hx rfl (hb hby deql_0) rfl rfl ?_
    show Steps p.tables e below (s₁.setTop (mkF m 1 #[.val (.ref a1), .val (.ref a2), .unset] [(.ref a2)])) _
    exact k)
  obtain ⟨T3, X3, e3, st3⟩ := instNo X0 hx hZ hown (hw _ (List.mem_of_getElem? (i := 47) rfl)) e0 E2 (own_no (hw _ (List.mem_of_getElem? (i := 49) rfl)) (hw _ (List.mem_of_getElem? (i := 2) rfl)) (NS.step (hw _ (List.mem_of_getElem? (i := 49) rfl)) (NS.step (hw _ (List.mem_of_getElem? (i := 50) rfl)) (own_root (hw _ (List.mem_of_getElem? (i := 51) rfl)) (hw _ (List.mem_of_getElem? (i := 2) rfl)) (by decide)) (by decide)) (by decide)) (by decide)) (g := (mkF m 1 #[.val (.ref a1), .val (.ref a2), .unset] [(.ref a2)])) rfl rfl (hb hby deql_1)
  have pre4 : ∀ t, Steps p.tables e below (T3.setTop (mkF m 53 #[.val (.ref a1), .val (.ref a2), .unset] [(.int (0 : Int32))])) t → Steps p.tables e below (s₁.setTop (entryFrame m #[(.ref a1), (.ref a2)] 3)) t := fun t k => pre2 t (by
    show Steps p.tables e below (s₁.setTop (mkF m 1 #[.val (.ref a1), .val (.ref a2), .unset] [(.ref a2)])) _
    refine st3 _ ?_
    show Steps p.tables e below (T3.setTop (mkF m 4 #[.val (.ref a1), .val (.ref a2), .unset] [(.int (0 : Int32))])) _
    refine XS.ifYes X3.here hx rfl (pc0 := 4) (pc' := 52) rfl (hb hby deql_4) rfl (XT.i0_eq_t rfl) (by decide) (by decide) ?_
    show Steps p.tables e below (T3.setTop (mkF m 52 #[.val (.ref a1), .val (.ref a2), .unset] [])) _
    refine XS.iconst X3.here hx rfl (hb hby deql_52) ?_
    show Steps p.tables e below (T3.setTop (mkF m 53 #[.val (.ref a1), .val (.ref a2), .unset] [(.int (0 : Int32))])) _
    exact k)
  obtain ⟨fs, hr, hrun, hended, hW, hsame⟩ := X3.leave (v := some (.int (0 : Int32))) (fun h => by rw [Bd.returns] at h; cases h)
  refine ⟨_, _, pre4 _ ?_, hrun, hended, _, _, rfl, ?_, ⟨_, rfl⟩, hW, hsame.mono (by decide) (by decide)⟩
  · exact retN X3 hx (t := .boolean) Bd.returns (by simp) (hb hby deql_53) hr
  · show Q_eql Z a1 a2 h0 n0 _ T3.heap _
    rw [e3]
    exact ⟨rfl, N0, rfl⟩
theorem dlin_0 : decode jdk_35_method_26_code 0 = .ok (.aload_n 0, 1) := by decide +kernel
theorem dlin_1 : decode jdk_35_method_26_code 1 = .ok (.invokespecial 270, 3) := by decide +kernel
theorem dlin_4 : decode jdk_35_method_26_code 4 = .ok (.aload_n 0, 1) := by decide +kernel
theorem dlin_5 : decode jdk_35_method_26_code 5 = .ok (.lload_n 1, 1) := by decide +kernel
theorem dlin_6 : decode jdk_35_method_26_code 6 = .ok (.putfield 273, 3) := by decide +kernel
theorem dlin_9 : decode jdk_35_method_26_code 9 = .ok (.return_, 1) := by decide +kernel
theorem pn_lin : plainName "java/lang/Long" = true := by first | (simp [plainName, overriddenIn]; done) | decide +kernel
theorem ef_lin (m : MethodId) (a1 : Addr) (q : Int64) : entryFrame m #[(.ref a1), (.long q)] 3 = (mkF m 0 #[.val (.ref a1), .val (.long q), .second] []) := by first | (simp [entryFrame, mkF, argsToLocals, Value.category]; done) | rfl
def Q_lin (Z : State) (a1 : Addr) (q : Int64) (u1 : Value) (h0 : Heap) (n0 : Nat) (v : Option Value) (h : Heap) (L : List Loc) : Prop := v = none ∧ Fr n0 L ∧ Keep h0 h [a1]
set_option maxRecDepth 65536 in
set_option maxHeartbeats 40000000 in
theorem rm_lin (l : Launch) (Z : State) (a0 : Array Value) (hw : ∀ d ∈ tables_1, d.before a0 Z = true) (ws : List Jvm.Cond) (a1 : Addr) (q : Int64) (u1 : Value) (h0 : Heap) (n0 : Nat) (Z0 : n0 ≤ h0.size) (E1 : Exa Z h0 a1 "java/lang/Long") (F1 : Fld Z h0 a1 "java/lang/Long" "value" "J" u1) (g_a1 : n0 ≤ a1) :
    MetFree l (⟨"java/lang/Long", "<init>", "(J)V"⟩ : MethodName) (head1 (Jvm.Cond.code (⟨"java/lang/Long", "<init>", "(J)V"⟩ : MethodName) jdk_35_method_26_code 3 none :: ws) ({ frames := 2, cells := 0, slots := 0, locals := 24 } : Room)) (fun a U => a = #[(.ref a1), (.long q)] ∧ Z.Warmed39 U.vm ∧ U.heap = h0) (fun _ _ _ _ _ => True) (fun _ U o U' => ∃ v L, o = .returned v ∧ Q_lin Z a1 q u1 h0 n0 v U'.heap L ∧ FrameEnd U o U' L ({ frames := 2, cells := 0, slots := 0, locals := 24 } : Room).cells ({ frames := 2, cells := 0, slots := 0, locals := 24 } : Room).slots) := by
  refine MetFree.of_bodySF (plainFor_of_name pn_lin) hisR ?_
  intro p e s m args below meth c s₁ Bd hml0 hP hK
  obtain ⟨rfl, hZ, hh⟩ := hP
  have hx := Bd.exec
  have hby := Bd.bytes
  have hml : c.maxLocals = 3 := hml0
  have hown : s.vm.findClass "java/lang/Long" = some m.cls := findClass_of_methodNamed Bd.named
  have hnm := (name_of_methodNamed Bd.named Bd.method).1
  have X0 : Stand p l e ({ frames := 2, cells := 0, slots := 0, locals := 24 } : Room) s m #[(.ref a1), (.long q)] below meth c s₁ [] 0 0 := Stand.of_body Bd
  have e0 : s₁.heap = h0 := by rw [← hh, Bd.state]; rfl
  have N0 := Fr.nil n0
  have pre0 : ∀ t, Steps p.tables e below (s₁.setTop (mkF m 0 #[.val (.ref a1), .val (.long q), .second] [])) t → Steps p.tables e below (s₁.setTop (entryFrame m #[(.ref a1), (.long q)] 3)) t := fun t k => castTop (ef_lin m a1 q) k
  have K2 : Keep h0 h0 [a1] := Keep.refl h0 [a1]
  have pre3 : ∀ t, Steps p.tables e below (s₁.setTop (mkF m 1 #[.val (.ref a1), .val (.long q), .second] [(.ref a1)])) t → Steps p.tables e below (s₁.setTop (entryFrame m #[(.ref a1), (.long q)] 3)) t := fun t k => pre0 t (by
    show Steps p.tables e below (s₁.setTop (mkF m 0 #[.val (.ref a1), .val (.long q), .second] [])) _
    refine XS.aloadN X0.here hx rfl (hb hby dlin_0) rfl rfl ?_
    show Steps p.tables e below (s₁.setTop (mkF m 1 #[.val (.ref a1), .val (.long q), .second] [(.ref a1)])) _
    exact k)
  obtain ⟨_, _, ⟨T4, L4, kk4, nn4⟩, -, X4, ⟨Lc4, hQ4, l4, y4, z4⟩, st4⟩ := X0.specialBack hx (y := (⟨"java/lang/Number", "<init>", "()V"⟩ : MethodName)) rfl hown (mvT hZ (hw _ (List.mem_of_getElem? (i := 58) rfl))) (mvT hZ (hw _ (List.mem_of_getElem? (i := 59) rfl))) (mvT hZ (hw _ (List.mem_of_getElem? (i := 63) rfl))) (by decide) (backOf (W := 0) (rm_num l Z a0 hw [] a1 h0 n0 Z0 ) hZ (hw _ (List.mem_of_getElem? (i := 63) rfl)) (hw _ (List.mem_of_getElem? (i := 62) rfl)) (by decide) (by decide)) (g := (mkF m 1 #[.val (.ref a1), .val (.long q), .second] [(.ref a1)])) rfl (by rw [hml]; rfl) (Steps.refl _) (a := a1) (argsL := []) (rest := []) (lenOf pd___V rfl) rfl (by show 2 * 0 + _ ≤ _; exact Nat.le_of_eq rfl) (hb hby dlin_1) (fun _ _ => ⟨rfl, e0, (by decide : 0 + 0 ≤ _), (by decide : 0 + 0 ≤ _)⟩)
  dsimp only [Pt.U, Pt.locs, Pt.cells, Pt.slots] at X4 l4 y4 z4 st4 hQ4
  subst l4 y4 z4
  obtain ⟨rfl, N4q, eq4⟩ := hQ4
  have N4 := Fr.app N0 N4q
  have pre5 : ∀ t, Steps p.tables e below (T4.setTop (mkF m 6 #[.val (.ref a1), .val (.long q), .second] [(.long q), (.ref a1)])) t → Steps p.tables e below (s₁.setTop (entryFrame m #[(.ref a1), (.long q)] 3)) t := fun t k => pre3 t (by
    show Steps p.tables e below (s₁.setTop (mkF m 1 #[.val (.ref a1), .val (.long q), .second] [(.ref a1)])) _
    refine st4.trans ?_
    show Steps p.tables e below (T4.setTop (mkF m 4 #[.val (.ref a1), .val (.long q), .second] [])) _
    refine XS.aloadN X4.here hx rfl (hb hby dlin_4) rfl rfl ?_
    show Steps p.tables e below (T4.setTop (mkF m 5 #[.val (.ref a1), .val (.long q), .second] [(.ref a1)])) _
    refine XT.lloadN X4.here hx rfl (hb hby dlin_5) rfl ?_
    show Steps p.tables e below (T4.setTop (mkF m 6 #[.val (.ref a1), .val (.long q), .second] [(.long q), (.ref a1)])) _
    exact k)
  obtain ⟨T6, h6, X6, e6, W6, st6⟩ := putF X4 hx hZ hown (host := "") (Or.inl (hw _ (List.mem_of_getElem? (i := 65) rfl))) Via.refl eq4 F1 E1 (Or.inr ⟨(hw _ (List.mem_of_getElem? (i := 66) rfl)), rfl, hnm⟩) (hw _ (List.mem_of_getElem? (i := 53) rfl)) (ty := .long) (by decide) rfl rfl (g := (mkF m 6 #[.val (.ref a1), .val (.long q), .second] [(.long q), (.ref a1)])) rfl rfl (hb hby dlin_6)
  have F6 := F1.same W6
  have N6 := Fr.snoc X6 N4 g_a1
  have f7_0 := E1.wr W6
  have K8 := K2.wr W6 (Or.inl (List.mem_of_getElem? (i := 0) rfl))
  have Z6 : n0 ≤ h6.size := Nat.le_trans Z0 (Keep.of_wr W6).1
  have pre9 : ∀ t, Steps p.tables e below (T6.setTop (mkF m 9 #[.val (.ref a1), .val (.long q), .second] [])) t → Steps p.tables e below (s₁.setTop (entryFrame m #[(.ref a1), (.long q)] 3)) t := fun t k => pre5 t (by
    show Steps p.tables e below (T4.setTop (mkF m 6 #[.val (.ref a1), .val (.long q), .second] [(.long q), (.ref a1)])) _
    refine st6 _ ?_
    show Steps p.tables e below (T6.setTop (mkF m 9 #[.val (.ref a1), .val (.long q), .second] [])) _
    exact k)
  obtain ⟨fs, hr, hrun, hended, hW, hsame⟩ := X6.leave (v := none) (fun _ => rfl)
  refine ⟨_, _, pre9 _ ?_, hrun, hended, _, _, rfl, ?_, ⟨_, rfl⟩, hW, hsame.mono (by decide) (by decide)⟩
  · exact X6.returnOut hx Bd.returns (hb hby dlin_9) hr
  · show Q_lin Z a1 q u1 h0 n0 _ T6.heap _
    rw [e6]
    exact ⟨rfl, N6, K8⟩
theorem dlvo_0 : decode jdk_35_method_24_code 0 = .ok (.sipush 128, 3) := by decide +kernel
theorem dlvo_3 : decode jdk_35_method_24_code 3 = .ok (.istore_n 2, 1) := by decide +kernel
theorem dlvo_4 : decode jdk_35_method_24_code 4 = .ok (.lload_n 0, 1) := by decide +kernel
theorem dlvo_5 : decode jdk_35_method_24_code 5 = .ok (.ldc2_w 230, 3) := by decide +kernel
theorem dlvo_8 : decode jdk_35_method_24_code 8 = .ok (.lcmp, 1) := by decide +kernel
theorem dlvo_9 : decode jdk_35_method_24_code 9 = .ok (.ifCond .lt 22, 3) := by decide +kernel
theorem dlvo_12 : decode jdk_35_method_24_code 12 = .ok (.lload_n 0, 1) := by decide +kernel
theorem dlvo_13 : decode jdk_35_method_24_code 13 = .ok (.ldc2_w 232, 3) := by decide +kernel
theorem dlvo_16 : decode jdk_35_method_24_code 16 = .ok (.lcmp, 1) := by decide +kernel
theorem dlvo_17 : decode jdk_35_method_24_code 17 = .ok (.ifCond .gt 14, 3) := by decide +kernel
theorem dlvo_20 : decode jdk_35_method_24_code 20 = .ok (.getstatic 234, 3) := by decide +kernel
theorem dlvo_23 : decode jdk_35_method_24_code 23 = .ok (.lload_n 0, 1) := by decide +kernel
theorem dlvo_24 : decode jdk_35_method_24_code 24 = .ok (.l2i, 1) := by decide +kernel
theorem dlvo_25 : decode jdk_35_method_24_code 25 = .ok (.sipush 128, 3) := by decide +kernel
theorem dlvo_28 : decode jdk_35_method_24_code 28 = .ok (.iadd, 1) := by decide +kernel
theorem dlvo_29 : decode jdk_35_method_24_code 29 = .ok (.aaload, 1) := by decide +kernel
theorem dlvo_30 : decode jdk_35_method_24_code 30 = .ok (.areturn, 1) := by decide +kernel
theorem dlvo_31 : decode jdk_35_method_24_code 31 = .ok (.new 1, 3) := by decide +kernel
theorem dlvo_34 : decode jdk_35_method_24_code 34 = .ok (.dup, 1) := by decide +kernel
theorem dlvo_35 : decode jdk_35_method_24_code 35 = .ok (.lload_n 0, 1) := by decide +kernel
theorem dlvo_36 : decode jdk_35_method_24_code 36 = .ok (.invokespecial 240, 3) := by decide +kernel
theorem dlvo_39 : decode jdk_35_method_24_code 39 = .ok (.areturn, 1) := by decide +kernel
theorem pd__J_V : parseMethodDescriptor "(J)V" = some ⟨[.long], none⟩ := by decide +kernel
theorem pn_lvo : plainName "java/lang/Long" = true := by first | (simp [plainName, overriddenIn]; done) | decide +kernel
theorem ef_lvo (m : MethodId) (q : Int64) : entryFrame m #[(.long q)] 3 = (mkF m 0 #[.val (.long q), .second, .unset] []) := by first | (simp [entryFrame, mkF, argsToLocals, Value.category]; done) | rfl
def Q_lvo (Z : State) (q : Int64) (ar : Addr) (cA : Cell) (h0 : Heap) (n0 : Nat) (v : Option Value) (h : Heap) (L : List Loc) : Prop := ∃ br : Addr, v = some (.ref br) ∧ Fr n0 L ∧ Keep h0 h [] ∧ Exa Z h br "java/lang/Long"
set_option maxRecDepth 65536 in
set_option maxHeartbeats 40000000 in
theorem rm_lvo (l : Launch) (Z : State) (a0 : Array Value) (hw : ∀ d ∈ tables_1, d.before a0 Z = true) (ws : List Jvm.Cond) (q : Int64) (ar : Addr) (cA : Cell) (h0 : Heap) (n0 : Nat) (Z0 : n0 ≤ h0.size) (HS : Sta Z h0 "java/lang/Long$LongCache" "cache" "[Ljava/lang/Long;" (.ref ar)) (HA : Arr Z h0 ar cA (.object "java/lang/Long")) (HZ : 256 ≤ cA.slots.size) (HC : ∀ i, i < 256 → ∃ b, cA.slots[i]? = some (.ref b) ∧ Exa Z h0 b "java/lang/Long") :
    MetFree l (⟨"java/lang/Long", "valueOf", "(J)Ljava/lang/Long;"⟩ : MethodName) (head1 (Jvm.Cond.code (⟨"java/lang/Long", "valueOf", "(J)Ljava/lang/Long;"⟩ : MethodName) jdk_35_method_24_code 3 (some (.object "java/lang/Long")) :: ws) ({ frames := 3, cells := 1, slots := 1, locals := 40 } : Room)) (fun a U => a = #[(.long q)] ∧ Z.Warmed39 U.vm ∧ U.heap = h0) (fun _ _ _ _ _ => True) (fun _ U o U' => ∃ v L, o = .returned v ∧ Q_lvo Z q ar cA h0 n0 v U'.heap L ∧ FrameEnd U o U' L ({ frames := 3, cells := 1, slots := 1, locals := 40 } : Room).cells ({ frames := 3, cells := 1, slots := 1, locals := 40 } : Room).slots) := by
  refine MetFree.of_bodySF (plainFor_of_name pn_lvo) hisR ?_
  intro p e s m args below meth c s₁ Bd hml0 hP hK
  obtain ⟨rfl, hZ, hh⟩ := hP
  have hx := Bd.exec
  have hby := Bd.bytes
  have hml : c.maxLocals = 3 := hml0
  have hown : s.vm.findClass "java/lang/Long" = some m.cls := findClass_of_methodNamed Bd.named
  have hnm := (name_of_methodNamed Bd.named Bd.method).1
  have X0 : Stand p l e ({ frames := 3, cells := 1, slots := 1, locals := 40 } : Room) s m #[(.long q)] below meth c s₁ [] 0 0 := Stand.of_body Bd
  have e0 : s₁.heap = h0 := by rw [← hh, Bd.state]; rfl
  have N0 := Fr.nil n0
  have pre0 : ∀ t, Steps p.tables e below (s₁.setTop (mkF m 0 #[.val (.long q), .second, .unset] [])) t → Steps p.tables e below (s₁.setTop (entryFrame m #[(.long q)] 3)) t := fun t k => castTop (ef_lvo m q) k
  have K2 : Keep h0 h0 [] := Keep.refl h0 []
  have pre3 : ∀ t, Steps p.tables e below (s₁.setTop (mkF m 9 #[.val (.long q), .second, .val (.int (128 : Int32))] [(.int (XT.cmpL q (-128 : Int64)))])) t → Steps p.tables e below (s₁.setTop (entryFrame m #[(.long q)] 3)) t := fun t k => pre0 t (by
    show Steps p.tables e below (s₁.setTop (mkF m 0 #[.val (.long q), .second, .unset] [])) _
    refine XS.sipush X0.here hx rfl (hb hby dlvo_0) ?_
    show Steps p.tables e below (s₁.setTop (mkF m 3 #[.val (.long q), .second, .unset] [(.int (128 : Int32))])) _
    refine XS.istoreN X0.here hx rfl (hb hby dlvo_3) rfl (l' := #[.val (.long q), .second, .val (.int (128 : Int32))]) rfl ?_
    show Steps p.tables e below (s₁.setTop (mkF m 4 #[.val (.long q), .second, .val (.int (128 : Int32))] [])) _
    refine XT.lloadN X0.here hx rfl (hb hby dlvo_4) rfl ?_
    show Steps p.tables e below (s₁.setTop (mkF m 5 #[.val (.long q), .second, .val (.int (128 : Int32))] [(.long q)])) _
    refine X0.ldc2J hx hown (mvT hZ (hw _ (List.mem_of_getElem? (i := 38) rfl))) rfl (hb hby dlvo_5) ?_
    show Steps p.tables e below (s₁.setTop (mkF m 8 #[.val (.long q), .second, .val (.int (128 : Int32))] [(.long (-128 : Int64)), (.long q)])) _
    refine XT.lcmp X0.here hx rfl (hb hby dlvo_8) rfl ?_
    show Steps p.tables e below (s₁.setTop (mkF m 9 #[.val (.long q), .second, .val (.int (128 : Int32))] [(.int (XT.cmpL q (-128 : Int64)))])) _
    exact k)
  by_cases hc1 : q < (-128 : Int64)
  · skip
    have pre4 : ∀ t, Steps p.tables e below (s₁.setTop (mkF m 31 #[.val (.long q), .second, .val (.int (128 : Int32))] [])) t → Steps p.tables e below (s₁.setTop (entryFrame m #[(.long q)] 3)) t := fun t k => pre3 t (by
      show Steps p.tables e below (s₁.setTop (mkF m 9 #[.val (.long q), .second, .val (.int (128 : Int32))] [(.int (XT.cmpL q (-128 : Int64)))])) _
      refine XS.ifYes X0.here hx rfl (pc0 := 9) (pc' := 31) rfl (hb hby dlvo_9) rfl (XT.ll_lt_t hc1) (by decide) (by decide) ?_
      show Steps p.tables e below (s₁.setTop (mkF m 31 #[.val (.long q), .second, .val (.int (128 : Int32))] [])) _
      exact k)
    obtain ⟨T5, h5, X5, e5, E5, A5, D5, -, st5⟩ := newO X0 hx hZ hown (hw _ (List.mem_of_getElem? (i := 52) rfl)) (hw _ (List.mem_of_getElem? (i := 53) rfl)) (hw _ (List.mem_of_getElem? (i := 36) rfl)) e0 (g := (mkF m 31 #[.val (.long q), .second, .val (.int (128 : Int32))] [])) rfl (hb hby dlvo_31) (by decide) (by decide)
    obtain ⟨b5, g5⟩ : ∃ z, z = h0.size := ⟨_, rfl⟩
    rw [← g5] at A5 D5 st5
    have g_b5 : n0 ≤ b5 := Nat.le_trans Z0 (Nat.le_of_eq g5.symm)
    have sz_b5 : h0.size ≤ b5 := Nat.le_trans K2.1 (Nat.le_of_eq g5.symm)
    have Z5 : n0 ≤ h5.size := Nat.le_trans Z0 E5.1
    have f6_0 := HS.ext E5
    have K7 := K2.ext E5
    have F5_value : Fld Z h5 b5 "java/lang/Long" "value" "J" (.long (0 : Int64)) := D5 (Or.inr (hw _ (List.mem_of_getElem? (i := 66) rfl))) (ty := .long) (by decide)
    have pre8 : ∀ t, Steps p.tables e below (T5.setTop (mkF m 36 #[.val (.long q), .second, .val (.int (128 : Int32))] [(.long q), (.ref b5), (.ref b5)])) t → Steps p.tables e below (s₁.setTop (entryFrame m #[(.long q)] 3)) t := fun t k => pre4 t (by
      show Steps p.tables e below (s₁.setTop (mkF m 31 #[.val (.long q), .second, .val (.int (128 : Int32))] [])) _
      refine st5 _ ?_
      show Steps p.tables e below (T5.setTop (mkF m 34 #[.val (.long q), .second, .val (.int (128 : Int32))] [(.ref b5)])) _
      refine XS.dup X5.here hx rfl (hb hby dlvo_34) rfl rfl ?_
      show Steps p.tables e below (T5.setTop (mkF m 35 #[.val (.long q), .second, .val (.int (128 : Int32))] [(.ref b5), (.ref b5)])) _
      refine XT.lloadN X5.here hx rfl (hb hby dlvo_35) rfl ?_
      show Steps p.tables e below (T5.setTop (mkF m 36 #[.val (.long q), .second, .val (.int (128 : Int32))] [(.long q), (.ref b5), (.ref b5)])) _
      exact k)
    obtain ⟨_, _, ⟨T9, L9, kk9, nn9⟩, -, X9, ⟨Lc9, hQ9, l9, y9, z9⟩, st9⟩ := X5.specialBack hx (y := (⟨"java/lang/Long", "<init>", "(J)V"⟩ : MethodName)) rfl hown (mvT hZ (hw _ (List.mem_of_getElem? (i := 54) rfl))) (mvT hZ (hw _ (List.mem_of_getElem? (i := 55) rfl))) (mvT hZ (hw _ (List.mem_of_getElem? (i := 57) rfl))) (by decide) (backOf (W := 1) (rm_lin l Z a0 hw [] b5 q _ h5 n0 Z5 A5 F5_value g_b5) hZ (hw _ (List.mem_of_getElem? (i := 57) rfl)) (hw _ (List.mem_of_getElem? (i := 36) rfl)) (by decide) (by decide)) (g := (mkF m 36 #[.val (.long q), .second, .val (.int (128 : Int32))] [(.long q), (.ref b5), (.ref b5)])) rfl (by rw [hml]; rfl) (Steps.refl _) (a := b5) (argsL := [(.long q)]) (rest := [(.ref b5)]) (lenOf pd__J_V rfl) rfl (by show 2 * 0 + _ ≤ _; exact Nat.le_of_eq rfl) (hb hby dlvo_36) (fun _ _ => ⟨rfl, e5, (by decide : 1 + 0 ≤ _), (by decide : 1 + 0 ≤ _)⟩)
    dsimp only [Pt.U, Pt.locs, Pt.cells, Pt.slots] at X9 l9 y9 z9 st9 hQ9
    subst l9 y9 z9
    obtain ⟨rfl, N9q, Kc9⟩ := hQ9
    have N9 := Fr.app N0 N9q
    have f10_0 := own_sta_keep f6_0 Kc9 (by intro x hx; simp only [List.mem_cons, List.not_mem_nil, or_false] at hx; rcases hx with rfl; exact own_ns_exa A5)
    have f10_1 := A5.keep Kc9
    have K11 := K7.trans Kc9 (fun x hx => by cases List.mem_singleton.mp hx; exact (Or.inr sz_b5))
    have Z9 : n0 ≤ T9.heap.size := Nat.le_trans Z5 Kc9.1
    have e9 : T9.heap = T9.heap := rfl
    have pre12 : ∀ t, Steps p.tables e below (T9.setTop (mkF m 39 #[.val (.long q), .second, .val (.int (128 : Int32))] [(.ref b5)])) t → Steps p.tables e below (s₁.setTop (entryFrame m #[(.long q)] 3)) t := fun t k => pre8 t (by
      show Steps p.tables e below (T5.setTop (mkF m 36 #[.val (.long q), .second, .val (.int (128 : Int32))] [(.long q), (.ref b5), (.ref b5)])) _
      refine st9.trans ?_
      show Steps p.tables e below (T9.setTop (mkF m 39 #[.val (.long q), .second, .val (.int (128 : Int32))] [(.ref b5)])) _
      exact k)
    obtain ⟨fs, hr, hrun, hended, hW, hsame⟩ := X9.leave (v := some (.ref b5)) (fun h => by rw [Bd.returns] at h; cases h)
    refine ⟨_, _, pre12 _ ?_, hrun, hended, _, _, rfl, ?_, ⟨_, rfl⟩, hW, hsame.mono (by decide) (by decide)⟩
    · show Steps p.tables e below (T9.setTop (mkF m 39 #[.val (.long q), .second, .val (.int (128 : Int32))] [(.ref b5)])) _
      jvm_step X9.here [X9.here.top, hx, (hb hby dlvo_39), X9.method', Bd.returns, Value.isRef, FieldType.isReference]
      first | (intro acts; rw [hr _ acts rfl rfl rfl]) | rw [hr _ _ rfl rfl rfl]
      exact Steps.refl _
    · show Q_lvo Z q ar cA h0 n0 _ T9.heap _
      skip
      exact ⟨b5, rfl, N9, K11, f10_1⟩
  · skip
    have pre4 : ∀ t, Steps p.tables e below (s₁.setTop (mkF m 17 #[.val (.long q), .second, .val (.int (128 : Int32))] [(.int (XT.cmpL q (127 : Int64)))])) t → Steps p.tables e below (s₁.setTop (entryFrame m #[(.long q)] 3)) t := fun t k => pre3 t (by
      show Steps p.tables e below (s₁.setTop (mkF m 9 #[.val (.long q), .second, .val (.int (128 : Int32))] [(.int (XT.cmpL q (-128 : Int64)))])) _
      refine XS.ifNo X0.here hx rfl (hb hby dlvo_9) rfl (XT.ll_lt_f hc1) ?_
      show Steps p.tables e below (s₁.setTop (mkF m 12 #[.val (.long q), .second, .val (.int (128 : Int32))] [])) _
      refine XT.lloadN X0.here hx rfl (hb hby dlvo_12) rfl ?_
      show Steps p.tables e below (s₁.setTop (mkF m 13 #[.val (.long q), .second, .val (.int (128 : Int32))] [(.long q)])) _
      refine X0.ldc2J hx hown (mvT hZ (hw _ (List.mem_of_getElem? (i := 39) rfl))) rfl (hb hby dlvo_13) ?_
      show Steps p.tables e below (s₁.setTop (mkF m 16 #[.val (.long q), .second, .val (.int (128 : Int32))] [(.long (127 : Int64)), (.long q)])) _
      refine XT.lcmp X0.here hx rfl (hb hby dlvo_16) rfl ?_
      show Steps p.tables e below (s₁.setTop (mkF m 17 #[.val (.long q), .second, .val (.int (128 : Int32))] [(.int (XT.cmpL q (127 : Int64)))])) _
      exact k)
    by_cases hc2 : (127 : Int64) < q
    · skip
      have pre5 : ∀ t, Steps p.tables e below (s₁.setTop (mkF m 31 #[.val (.long q), .second, .val (.int (128 : Int32))] [])) t → Steps p.tables e below (s₁.setTop (entryFrame m #[(.long q)] 3)) t := fun t k => pre4 t (by
        show Steps p.tables e below (s₁.setTop (mkF m 17 #[.val (.long q), .second, .val (.int (128 : Int32))] [(.int (XT.cmpL q (127 : Int64)))])) _
        refine XS.ifYes X0.here hx rfl (pc0 := 17) (pc' := 31) rfl (hb hby dlvo_17) rfl (XT.ll_gt_t hc2) (by decide) (by decide) ?_
        show Steps p.tables e below (s₁.setTop (mkF m 31 #[.val (.long q), .second, .val (.int (128 : Int32))] [])) _
        exact k)
      obtain ⟨T6, h6, X6, e6, E6, A6, D6, -, st6⟩ := newO X0 hx hZ hown (hw _ (List.mem_of_getElem? (i := 52) rfl)) (hw _ (List.mem_of_getElem? (i := 53) rfl)) (hw _ (List.mem_of_getElem? (i := 36) rfl)) e0 (g := (mkF m 31 #[.val (.long q), .second, .val (.int (128 : Int32))] [])) rfl (hb hby dlvo_31) (by decide) (by decide)
      obtain ⟨b6, g6⟩ : ∃ z, z = h0.size := ⟨_, rfl⟩
      rw [← g6] at A6 D6 st6
      have g_b6 : n0 ≤ b6 := Nat.le_trans Z0 (Nat.le_of_eq g6.symm)
      have sz_b6 : h0.size ≤ b6 := Nat.le_trans K2.1 (Nat.le_of_eq g6.symm)
      have Z6 : n0 ≤ h6.size := Nat.le_trans Z0 E6.1
      have f7_0 := HS.ext E6
      have K8 := K2.ext E6
      have F6_value : Fld Z h6 b6 "java/lang/Long" "value" "J" (.long (0 : Int64)) := D6 (Or.inr (hw _ (List.mem_of_getElem? (i := 66) rfl))) (ty := .long) (by decide)
      have pre9 : ∀ t, Steps p.tables e below (T6.setTop (mkF m 36 #[.val (.long q), .second, .val (.int (128 : Int32))] [(.long q), (.ref b6), (.ref b6)])) t → Steps p.tables e below (s₁.setTop (entryFrame m #[(.long q)] 3)) t := fun t k => pre5 t (by
        show Steps p.tables e below (s₁.setTop (mkF m 31 #[.val (.long q), .second, .val (.int (128 : Int32))] [])) _
        refine st6 _ ?_
        show Steps p.tables e below (T6.setTop (mkF m 34 #[.val (.long q), .second, .val (.int (128 : Int32))] [(.ref b6)])) _
        refine XS.dup X6.here hx rfl (hb hby dlvo_34) rfl rfl ?_
        show Steps p.tables e below (T6.setTop (mkF m 35 #[.val (.long q), .second, .val (.int (128 : Int32))] [(.ref b6), (.ref b6)])) _
        refine XT.lloadN X6.here hx rfl (hb hby dlvo_35) rfl ?_
        show Steps p.tables e below (T6.setTop (mkF m 36 #[.val (.long q), .second, .val (.int (128 : Int32))] [(.long q), (.ref b6), (.ref b6)])) _
        exact k)
      obtain ⟨_, _, ⟨T10, L10, kk10, nn10⟩, -, X10, ⟨Lc10, hQ10, l10, y10, z10⟩, st10⟩ := X6.specialBack hx (y := (⟨"java/lang/Long", "<init>", "(J)V"⟩ : MethodName)) rfl hown (mvT hZ (hw _ (List.mem_of_getElem? (i := 54) rfl))) (mvT hZ (hw _ (List.mem_of_getElem? (i := 55) rfl))) (mvT hZ (hw _ (List.mem_of_getElem? (i := 57) rfl))) (by decide) (backOf (W := 1) (rm_lin l Z a0 hw [] b6 q _ h6 n0 Z6 A6 F6_value g_b6) hZ (hw _ (List.mem_of_getElem? (i := 57) rfl)) (hw _ (List.mem_of_getElem? (i := 36) rfl)) (by decide) (by decide)) (g := (mkF m 36 #[.val (.long q), .second, .val (.int (128 : Int32))] [(.long q), (.ref b6), (.ref b6)])) rfl (by rw [hml]; rfl) (Steps.refl _) (a := b6) (argsL := [(.long q)]) (rest := [(.ref b6)]) (lenOf pd__J_V rfl) rfl (by show 2 * 0 + _ ≤ _; exact Nat.le_of_eq rfl) (hb hby dlvo_36) (fun _ _ => ⟨rfl, e6, (by decide : 1 + 0 ≤ _), (by decide : 1 + 0 ≤ _)⟩)
      dsimp only [Pt.U, Pt.locs, Pt.cells, Pt.slots] at X10 l10 y10 z10 st10 hQ10
      subst l10 y10 z10
      obtain ⟨rfl, N10q, Kc10⟩ := hQ10
      have N10 := Fr.app N0 N10q
      have f11_0 := own_sta_keep f7_0 Kc10 (by intro x hx; simp only [List.mem_cons, List.not_mem_nil, or_false] at hx; rcases hx with rfl; exact own_ns_exa A6)
      have f11_1 := A6.keep Kc10
      have K12 := K8.trans Kc10 (fun x hx => by cases List.mem_singleton.mp hx; exact (Or.inr sz_b6))
      have Z10 : n0 ≤ T10.heap.size := Nat.le_trans Z6 Kc10.1
      have e10 : T10.heap = T10.heap := rfl
      have pre13 : ∀ t, Steps p.tables e below (T10.setTop (mkF m 39 #[.val (.long q), .second, .val (.int (128 : Int32))] [(.ref b6)])) t → Steps p.tables e below (s₁.setTop (entryFrame m #[(.long q)] 3)) t := fun t k => pre9 t (by
        show Steps p.tables e below (T6.setTop (mkF m 36 #[.val (.long q), .second, .val (.int (128 : Int32))] [(.long q), (.ref b6), (.ref b6)])) _
        refine st10.trans ?_
        show Steps p.tables e below (T10.setTop (mkF m 39 #[.val (.long q), .second, .val (.int (128 : Int32))] [(.ref b6)])) _
        exact k)
      obtain ⟨fs, hr, hrun, hended, hW, hsame⟩ := X10.leave (v := some (.ref b6)) (fun h => by rw [Bd.returns] at h; cases h)
      refine ⟨_, _, pre13 _ ?_, hrun, hended, _, _, rfl, ?_, ⟨_, rfl⟩, hW, hsame.mono (by decide) (by decide)⟩
      · show Steps p.tables e below (T10.setTop (mkF m 39 #[.val (.long q), .second, .val (.int (128 : Int32))] [(.ref b6)])) _
        jvm_step X10.here [X10.here.top, hx, (hb hby dlvo_39), X10.method', Bd.returns, Value.isRef, FieldType.isReference]
        first | (intro acts; rw [hr _ acts rfl rfl rfl]) | rw [hr _ _ rfl rfl rfl]
        exact Steps.refl _
      · show Q_lvo Z q ar cA h0 n0 _ T10.heap _
        skip
        exact ⟨b6, rfl, N10, K12, f11_1⟩
    · skip
      have pre5 : ∀ t, Steps p.tables e below (s₁.setTop (mkF m 20 #[.val (.long q), .second, .val (.int (128 : Int32))] [])) t → Steps p.tables e below (s₁.setTop (entryFrame m #[(.long q)] 3)) t := fun t k => pre4 t (by
        show Steps p.tables e below (s₁.setTop (mkF m 17 #[.val (.long q), .second, .val (.int (128 : Int32))] [(.int (XT.cmpL q (127 : Int64)))])) _
        refine XS.ifNo X0.here hx rfl (hb hby dlvo_17) rfl (XT.ll_gt_f hc2) ?_
        show Steps p.tables e below (s₁.setTop (mkF m 20 #[.val (.long q), .second, .val (.int (128 : Int32))] [])) _
        exact k)
      obtain ⟨T6, X6, e6, st6⟩ := getS2 X0 hx hZ hown (host := "") (Or.inl (hw _ (List.mem_of_getElem? (i := 40) rfl))) Via.refl e0 HS (g := (mkF m 20 #[.val (.long q), .second, .val (.int (128 : Int32))] [])) rfl (hb hby dlvo_20)
      obtain ⟨pk1, pk2⟩ := Jvm.Free.LongBox.place_okL q hc1 hc2
      obtain ⟨bx, hx1, hx2⟩ := HC _ pk2
      have hin : ¬ ((q.toInt32 + (128 : Int32)) < 0 ∨ cA.slots.size ≤ (q.toInt32 + (128 : Int32)).toNatClampNeg) := fun h => pk1 (h.imp id fun z => Nat.le_trans HZ z)
      have pre7 : ∀ t, Steps p.tables e below (T6.setTop (mkF m 30 #[.val (.long q), .second, .val (.int (128 : Int32))] [(.ref bx)])) t → Steps p.tables e below (s₁.setTop (entryFrame m #[(.long q)] 3)) t := fun t k => pre5 t (by
        show Steps p.tables e below (s₁.setTop (mkF m 20 #[.val (.long q), .second, .val (.int (128 : Int32))] [])) _
        refine st6 _ ?_
        show Steps p.tables e below (T6.setTop (mkF m 23 #[.val (.long q), .second, .val (.int (128 : Int32))] [(.ref ar)])) _
        refine XT.lloadN X6.here hx rfl (hb hby dlvo_23) rfl ?_
        show Steps p.tables e below (T6.setTop (mkF m 24 #[.val (.long q), .second, .val (.int (128 : Int32))] [(.long q), (.ref ar)])) _
        refine XT.l2i X6.here hx rfl (hb hby dlvo_24) rfl ?_
        show Steps p.tables e below (T6.setTop (mkF m 25 #[.val (.long q), .second, .val (.int (128 : Int32))] [(.int (q.toInt32)), (.ref ar)])) _
        refine XS.sipush X6.here hx rfl (hb hby dlvo_25) ?_
        show Steps p.tables e below (T6.setTop (mkF m 28 #[.val (.long q), .second, .val (.int (128 : Int32))] [(.int (128 : Int32)), (.int (q.toInt32)), (.ref ar)])) _
        refine XS.iadd X6.here hx rfl (hb hby dlvo_28) rfl ?_
        show Steps p.tables e below (T6.setTop (mkF m 29 #[.val (.long q), .second, .val (.int (128 : Int32))] [(.int ((q.toInt32) + (128 : Int32))), (.ref ar)])) _
        refine X6.aaload hx (j := (q.toInt32 + (128 : Int32))) (v := (.ref bx)) (by rw [e6]; exact HA.1) (State.isArrayOf_alike hZ.alike HA.2.1) rfl HA.2.2 hin hx1 (g := (mkF m 29 #[.val (.long q), .second, .val (.int (128 : Int32))] [(.int ((q.toInt32) + (128 : Int32))), (.ref ar)])) rfl rfl (hb hby dlvo_29) _ ?_
        show Steps p.tables e below (T6.setTop (mkF m 30 #[.val (.long q), .second, .val (.int (128 : Int32))] [(.ref bx)])) _
        exact k)
      obtain ⟨fs, hr, hrun, hended, hW, hsame⟩ := X6.leave (v := some (.ref bx)) (fun h => by rw [Bd.returns] at h; cases h)
      refine ⟨_, _, pre7 _ ?_, hrun, hended, _, _, rfl, ?_, ⟨_, rfl⟩, hW, hsame.mono (by decide) (by decide)⟩
      · show Steps p.tables e below (T6.setTop (mkF m 30 #[.val (.long q), .second, .val (.int (128 : Int32))] [(.ref bx)])) _
        jvm_step X6.here [X6.here.top, hx, (hb hby dlvo_30), X6.method', Bd.returns, Value.isRef, FieldType.isReference]
        first | (intro acts; rw [hr _ acts rfl rfl rfl]) | rw [hr _ _ rfl rfl rfl]
        exact Steps.refl _
      · show Q_lvo Z q ar cA h0 n0 _ T6.heap _
        rw [e6]
        exact ⟨bx, rfl, N0, K2, hx2⟩
theorem pd__JJJ_V : parseMethodDescriptor "(JJJ)V" = some ⟨[.long, .long, .long], none⟩ := by decide +kernel
theorem pd__J_Ljava_lang_Long_ : parseMethodDescriptor "(J)Ljava/lang/Long;" = some ⟨[.long], some (.object "java/lang/Long")⟩ := by decide +kernel
theorem pd__Ljava_lang_Object__Z : parseMethodDescriptor "(Ljava/lang/Object;)Z" = some ⟨[(.object "java/lang/Object")], some .boolean⟩ := by decide +kernel
theorem pn_0 : plainName "com/example/terse_broker/tersebroker/codec/HandshakeEqualsPinLaw" = true := by first | (simp [plainName, overriddenIn]; done) | decide +kernel
theorem ef_0 (m : MethodId) (p1 : Int64) (p2 : Int64) (p3 : Int64) (p4 : Int64) (p5 : Int64) (p6 : Int32) : entryFrame m #[(.long p1), (.long p2), (.long p3), (.long p4), (.long p5), (.int p6)] maxLocals = (mkF m 0 #[.val (.long p1), .second, .val (.long p2), .second, .val (.long p3), .second, .val (.long p4), .second, .val (.long p5), .second, .val (.int p6), .unset, .unset, .unset, .unset, .unset, .unset, .unset, .unset, .unset, .unset, .unset, .unset, .unset, .unset, .unset, .unset, .unset] []) := by first | (simp [entryFrame, mkF, argsToLocals, Value.category, maxLocals]; done) | rfl
def Q_0 (Z : State) (p1 p2 p3 p4 p5 : Int64) (p6 : Int32) (ar : Addr) (cA : Cell) (h0 : Heap) (n0 : Nat) (v : Option Value) (h : Heap) (L : List Loc) : Prop := v = some (.int 1) ∧ Fr n0 L
set_option maxRecDepth 65536 in
set_option maxHeartbeats 40000000 in
theorem rs_0_5 (l : Launch) (Z : State) (a0 : Array Value) (hw : ∀ d ∈ tables_1, d.before a0 Z = true) (ws : List Jvm.Cond) (p1 p2 p3 p4 p5 : Int64) (p6 : Int32) (ar : Addr) (cA : Cell) (h0 : Heap) (n0 : Nat) (fa : Int64) (ta : Int64) (fb : Int64) (gb : Int64) (tb : Int64) (ex : Int32) (b13 : Addr) (b21 : Addr) (bx : Addr) {p e s m below meth c s₁} (Bd : BodyLoose p l x (head1 (Jvm.Cond.code x code maxLocals ret :: ws) room_1) code maxLocals ret e s m #[(.long p1), (.long p2), (.long p3), (.long p4), (.long p5), (.int p6)] below meth c s₁) {vmc} (hZ : Z.Warmed39 (s.setVm vmc).vm) (hown : (s.setVm vmc).vm.findClass "com/example/terse_broker/tersebroker/codec/HandshakeEqualsPinLaw" = some m.cls) (hml : c.maxLocals = 28) {Tc Lc0} (hhc : Heap) (Xc : Stand p l e room_1 (s.setVm vmc) m #[(.long p1), (.long p2), (.long p3), (.long p4), (.long p5), (.int p6)] below meth c Tc Lc0 11 303) (ec : Tc.heap = hhc) (Nc : Fr n0 Lc0) (Zc : n0 ≤ hhc.size) {kwc : Nat} (Sc : s.Since vmc kwc) (kpc : kwc ≤ hhc.size) (prec : ∀ t, Steps p.tables e below (Tc.setTop (mkF m 178 #[.val (.long p1), .second, .val (.long p2), .second, .val (.long p3), .second, .val (.long p4), .second, .val (.long p5), .second, .val (.int p6), .val (.long (4294967295 : Int64)), .second, .val (.long fa), .second, .val (.long ta), .second, .val (.long fb), .second, .val (.long gb), .second, .val (.long tb), .second, .val (.ref b13), .val (.ref b21), .val (.int ex), .val .null, .val (.ref bx)] [.null, (.ref b13)])) t → Steps p.tables e below (s₁.setTop (entryFrame m #[(.long p1), (.long p2), (.long p3), (.long p4), (.long p5), (.int p6)] maxLocals)) t) (fc5_0 : Exa Z hhc b13 "com/example/terse_broker/tersebroker/codec/Handshake") (fc5_1 : Fld Z hhc b13 "com/example/terse_broker/tersebroker/codec/Handshake" "maxFragmentSize" "J" (.long fa)) (fc5_2 : Fld Z hhc b13 "com/example/terse_broker/tersebroker/codec/Handshake" "maxAggregateSize" "J" (.long p2)) (fc5_3 : Fld Z hhc b13 "com/example/terse_broker/tersebroker/codec/Handshake" "ackTimeoutMillis" "J" (.long ta)) (fc5_4 : Exa Z hhc b21 "com/example/terse_broker/tersebroker/codec/Handshake") (fc5_5 : Fld Z hhc b21 "com/example/terse_broker/tersebroker/codec/Handshake" "maxFragmentSize" "J" (.long fb)) (fc5_6 : Fld Z hhc b21 "com/example/terse_broker/tersebroker/codec/Handshake" "maxAggregateSize" "J" (.long gb)) (fc5_7 : Fld Z hhc b21 "com/example/terse_broker/tersebroker/codec/Handshake" "ackTimeoutMillis" "J" (.long tb)) (fc5_8 : Exa Z hhc bx "java/lang/Long") (ne_b13_b21 : b13 ≠ b21) (g_b13 : n0 ≤ b13) (sz_b13 : h0.size ≤ b13) (g_b21 : n0 ≤ b21) (sz_b21 : h0.size ≤ b21) (Kk : Keep h0 hhc []) :
    ∃ s₂ o, Steps p.tables e below (s₁.setTop (entryFrame m #[(.long p1), (.long p2), (.long p3), (.long p4), (.long p5), (.int p6)] maxLocals)) s₂ ∧ s₂.status = .running ∧ Ended s₂ below o ∧ ∃ v L, o = .returned v ∧ Q_0 Z p1 p2 p3 p4 p5 p6 ar cA h0 n0 v s₂.heap L ∧ ReturnedEndW s o s₂ L room_1.cells room_1.slots := by
  have hx := Bd.exec
  have hby := Bd.bytes
  have hnm := (name_of_methodNamed Bd.named Bd.method).1
  obtain ⟨cq85, kq85, q85a, q85b, q85c⟩ := isOf hZ ec fc5_0
  obtain ⟨_, _, ⟨T85, L85, kk85, nn85⟩, -, X85, ⟨Lc85, hQ85, l85, y85, z85⟩, st85⟩ := Xc.virtualBack hx (y := (⟨"com/example/terse_broker/tersebroker/codec/Handshake", "equals", "(Ljava/lang/Object;)Z"⟩ : MethodName)) (z := (⟨"com/example/terse_broker/tersebroker/codec/Handshake", "equals", "(Ljava/lang/Object;)Z"⟩ : MethodName)) hown (mvT hZ (hw _ (List.mem_of_getElem? (i := 42) rfl))) (mvT hZ (hw _ (List.mem_of_getElem? (i := 43) rfl))) (notFace_of_selects (args := #[]) (mvT hZ (hw _ (List.mem_of_getElem? (i := 45) rfl)))) (mvT hZ (hw _ (List.mem_of_getElem? (i := 45) rfl))) (mvT hZ (hw _ (List.mem_of_getElem? (i := 44) rfl))) (by decide) (backOf (W := 0) (rm_eqn l Z a0 hw [] b13 hhc n0 Zc ) hZ (hw _ (List.mem_of_getElem? (i := 46) rfl)) (hw _ (List.mem_of_getElem? (i := 3) rfl)) (by decide) (by decide)) q85a q85c (g := (mkF m 178 #[.val (.long p1), .second, .val (.long p2), .second, .val (.long p3), .second, .val (.long p4), .second, .val (.long p5), .second, .val (.int p6), .val (.long (4294967295 : Int64)), .second, .val (.long fa), .second, .val (.long ta), .second, .val (.long fb), .second, .val (.long gb), .second, .val (.long tb), .second, .val (.ref b13), .val (.ref b21), .val (.int ex), .val .null, .val (.ref bx)] [.null, (.ref b13)])) rfl (by rw [hml]; rfl) (Steps.refl _) (argsL := [.null]) (rest := []) (lenOf pd__Ljava_lang_Object__Z rfl) rfl (by show 2 * 0 + _ ≤ _; exact Nat.le_of_eq rfl) (hb hby at_178) (fun _ _ => ⟨rfl, ec, (by decide : 11 + 0 ≤ _), (by decide : 303 + 0 ≤ _)⟩)
  dsimp only [Pt.U, Pt.locs, Pt.cells, Pt.slots] at X85 l85 y85 z85 st85 hQ85
  subst l85 y85 z85
  obtain ⟨rfl, N85q, eq85⟩ := hQ85
  have N85 := Fr.app Nc N85q
  have pre86 : ∀ t, Steps p.tables e below (T85.setTop (mkF m 188 #[.val (.long p1), .second, .val (.long p2), .second, .val (.long p3), .second, .val (.long p4), .second, .val (.long p5), .second, .val (.int p6), .val (.long (4294967295 : Int64)), .second, .val (.long fa), .second, .val (.long ta), .second, .val (.long fb), .second, .val (.long gb), .second, .val (.long tb), .second, .val (.ref b13), .val (.ref b21), .val (.int ex), .val .null, .val (.ref bx)] [(.ref bx), (.ref b13)])) t → Steps p.tables e below (s₁.setTop (entryFrame m #[(.long p1), (.long p2), (.long p3), (.long p4), (.long p5), (.int p6)] maxLocals)) t := fun t k => prec t (by
    show Steps p.tables e below (Tc.setTop (mkF m 178 #[.val (.long p1), .second, .val (.long p2), .second, .val (.long p3), .second, .val (.long p4), .second, .val (.long p5), .second, .val (.int p6), .val (.long (4294967295 : Int64)), .second, .val (.long fa), .second, .val (.long ta), .second, .val (.long fb), .second, .val (.long gb), .second, .val (.long tb), .second, .val (.ref b13), .val (.ref b21), .val (.int ex), .val .null, .val (.ref bx)] [.null, (.ref b13)])) _
    refine st85.trans ?_
    show Steps p.tables e below (T85.setTop (mkF m 181 #[.val (.long p1), .second, .val (.long p2), .second, .val (.long p3), .second, .val (.long p4), .second, .val (.long p5), .second, .val (.int p6), .val (.long (4294967295 : Int64)), .second, .val (.long fa), .second, .val (.long ta), .second, .val (.long fb), .second, .val (.long gb), .second, .val (.long tb), .second, .val (.ref b13), .val (.ref b21), .val (.int ex), .val .null, .val (.ref bx)] [(.int (0 : Int32))])) _
    refine XS.ifNo X85.here hx rfl (hb hby at_181) rfl (XT.i0_ne_f rfl) ?_
    show Steps p.tables e below (T85.setTop (mkF m 184 #[.val (.long p1), .second, .val (.long p2), .second, .val (.long p3), .second, .val (.long p4), .second, .val (.long p5), .second, .val (.int p6), .val (.long (4294967295 : Int64)), .second, .val (.long fa), .second, .val (.long ta), .second, .val (.long fb), .second, .val (.long gb), .second, .val (.long tb), .second, .val (.ref b13), .val (.ref b21), .val (.int ex), .val .null, .val (.ref bx)] [])) _
    refine XS.aload X85.here hx rfl (hb hby at_184) rfl rfl ?_
    show Steps p.tables e below (T85.setTop (mkF m 186 #[.val (.long p1), .second, .val (.long p2), .second, .val (.long p3), .second, .val (.long p4), .second, .val (.long p5), .second, .val (.int p6), .val (.long (4294967295 : Int64)), .second, .val (.long fa), .second, .val (.long ta), .second, .val (.long fb), .second, .val (.long gb), .second, .val (.long tb), .second, .val (.ref b13), .val (.ref b21), .val (.int ex), .val .null, .val (.ref bx)] [(.ref b13)])) _
    refine XS.aload X85.here hx rfl (hb hby at_186) rfl rfl ?_
    show Steps p.tables e below (T85.setTop (mkF m 188 #[.val (.long p1), .second, .val (.long p2), .second, .val (.long p3), .second, .val (.long p4), .second, .val (.long p5), .second, .val (.int p6), .val (.long (4294967295 : Int64)), .second, .val (.long fa), .second, .val (.long ta), .second, .val (.long fb), .second, .val (.long gb), .second, .val (.long tb), .second, .val (.ref b13), .val (.ref b21), .val (.int ex), .val .null, .val (.ref bx)] [(.ref bx), (.ref b13)])) _
    exact k)
  obtain ⟨cq87, kq87, q87a, q87b, q87c⟩ := isOf hZ eq85 fc5_0
  obtain ⟨_, _, ⟨T87, L87, kk87, nn87⟩, -, X87, ⟨Lc87, hQ87, l87, y87, z87⟩, st87⟩ := X85.virtualBack hx (y := (⟨"com/example/terse_broker/tersebroker/codec/Handshake", "equals", "(Ljava/lang/Object;)Z"⟩ : MethodName)) (z := (⟨"com/example/terse_broker/tersebroker/codec/Handshake", "equals", "(Ljava/lang/Object;)Z"⟩ : MethodName)) hown (mvT hZ (hw _ (List.mem_of_getElem? (i := 42) rfl))) (mvT hZ (hw _ (List.mem_of_getElem? (i := 43) rfl))) (notFace_of_selects (args := #[]) (mvT hZ (hw _ (List.mem_of_getElem? (i := 45) rfl)))) (mvT hZ (hw _ (List.mem_of_getElem? (i := 45) rfl))) (mvT hZ (hw _ (List.mem_of_getElem? (i := 44) rfl))) (by decide) (backOf (W := 0) (rm_eql l Z a0 hw [] b13 bx hhc n0 Zc fc5_8) hZ (hw _ (List.mem_of_getElem? (i := 46) rfl)) (hw _ (List.mem_of_getElem? (i := 3) rfl)) (by decide) (by decide)) q87a q87c (g := (mkF m 188 #[.val (.long p1), .second, .val (.long p2), .second, .val (.long p3), .second, .val (.long p4), .second, .val (.long p5), .second, .val (.int p6), .val (.long (4294967295 : Int64)), .second, .val (.long fa), .second, .val (.long ta), .second, .val (.long fb), .second, .val (.long gb), .second, .val (.long tb), .second, .val (.ref b13), .val (.ref b21), .val (.int ex), .val .null, .val (.ref bx)] [(.ref bx), (.ref b13)])) rfl (by rw [hml]; rfl) (Steps.refl _) (argsL := [(.ref bx)]) (rest := []) (lenOf pd__Ljava_lang_Object__Z rfl) rfl (by show 2 * 0 + _ ≤ _; exact Nat.le_of_eq rfl) (hb hby at_188) (fun _ _ => ⟨rfl, eq85, (by decide : 11 + 0 ≤ _), (by decide : 303 + 0 ≤ _)⟩)
  dsimp only [Pt.U, Pt.locs, Pt.cells, Pt.slots] at X87 l87 y87 z87 st87 hQ87
  subst l87 y87 z87
  obtain ⟨rfl, N87q, eq87⟩ := hQ87
  have N87 := Fr.app N85 N87q
  have pre88 : ∀ t, Steps p.tables e below (T87.setTop (mkF m 199 #[.val (.long p1), .second, .val (.long p2), .second, .val (.long p3), .second, .val (.long p4), .second, .val (.long p5), .second, .val (.int p6), .val (.long (4294967295 : Int64)), .second, .val (.long fa), .second, .val (.long ta), .second, .val (.long fb), .second, .val (.long gb), .second, .val (.long tb), .second, .val (.ref b13), .val (.ref b21), .val (.int ex), .val .null, .val (.ref bx)] [(.int (1 : Int32))])) t → Steps p.tables e below (s₁.setTop (entryFrame m #[(.long p1), (.long p2), (.long p3), (.long p4), (.long p5), (.int p6)] maxLocals)) t := fun t k => pre86 t (by
    show Steps p.tables e below (T85.setTop (mkF m 188 #[.val (.long p1), .second, .val (.long p2), .second, .val (.long p3), .second, .val (.long p4), .second, .val (.long p5), .second, .val (.int p6), .val (.long (4294967295 : Int64)), .second, .val (.long fa), .second, .val (.long ta), .second, .val (.long fb), .second, .val (.long gb), .second, .val (.long tb), .second, .val (.ref b13), .val (.ref b21), .val (.int ex), .val .null, .val (.ref bx)] [(.ref bx), (.ref b13)])) _
    refine st87.trans ?_
    show Steps p.tables e below (T87.setTop (mkF m 191 #[.val (.long p1), .second, .val (.long p2), .second, .val (.long p3), .second, .val (.long p4), .second, .val (.long p5), .second, .val (.int p6), .val (.long (4294967295 : Int64)), .second, .val (.long fa), .second, .val (.long ta), .second, .val (.long fb), .second, .val (.long gb), .second, .val (.long tb), .second, .val (.ref b13), .val (.ref b21), .val (.int ex), .val .null, .val (.ref bx)] [(.int (0 : Int32))])) _
    refine XS.ifNo X87.here hx rfl (hb hby at_191) rfl (XT.i0_ne_f rfl) ?_
    show Steps p.tables e below (T87.setTop (mkF m 194 #[.val (.long p1), .second, .val (.long p2), .second, .val (.long p3), .second, .val (.long p4), .second, .val (.long p5), .second, .val (.int p6), .val (.long (4294967295 : Int64)), .second, .val (.long fa), .second, .val (.long ta), .second, .val (.long fb), .second, .val (.long gb), .second, .val (.long tb), .second, .val (.ref b13), .val (.ref b21), .val (.int ex), .val .null, .val (.ref bx)] [])) _
    refine XS.iconst X87.here hx rfl (hb hby at_194) ?_
    show Steps p.tables e below (T87.setTop (mkF m 195 #[.val (.long p1), .second, .val (.long p2), .second, .val (.long p3), .second, .val (.long p4), .second, .val (.long p5), .second, .val (.int p6), .val (.long (4294967295 : Int64)), .second, .val (.long fa), .second, .val (.long ta), .second, .val (.long fb), .second, .val (.long gb), .second, .val (.long tb), .second, .val (.ref b13), .val (.ref b21), .val (.int ex), .val .null, .val (.ref bx)] [(.int (1 : Int32))])) _
    refine XS.goto X87.here hx rfl (pc0 := 195) (pc' := 199) rfl (hb hby at_195) (by decide) (by decide) ?_
    show Steps p.tables e below (T87.setTop (mkF m 199 #[.val (.long p1), .second, .val (.long p2), .second, .val (.long p3), .second, .val (.long p4), .second, .val (.long p5), .second, .val (.int p6), .val (.long (4294967295 : Int64)), .second, .val (.long fa), .second, .val (.long ta), .second, .val (.long fb), .second, .val (.long gb), .second, .val (.long tb), .second, .val (.ref b13), .val (.ref b21), .val (.int ex), .val .null, .val (.ref bx)] [(.int (1 : Int32))])) _
    exact k)
  obtain ⟨fs, hr, hrun, hended, hW⟩ := X87.leaveW Sc (Nat.le_trans kpc (Nat.le_of_eq (congrArg Array.size eq87.symm))) (v := some (.int (1 : Int32))) (fun h => by rw [Bd.returns] at h; cases h)
  refine ⟨_, _, pre88 _ ?_, hrun, hended, _, _, rfl, ?_, hW.1, hW.2.1, hW.2.2.1, hW.2.2.2.mono (by decide) (by decide)⟩
  · exact retN X87 hx (t := .boolean) Bd.returns (by simp) (hb hby at_199) hr
  · show Q_0 Z p1 p2 p3 p4 p5 p6 ar cA h0 n0 _ T87.heap _
    rw [eq87]
    exact ⟨rfl, N87⟩
set_option maxRecDepth 65536 in
set_option maxHeartbeats 40000000 in
theorem rs_0_4 (l : Launch) (Z : State) (a0 : Array Value) (hw : ∀ d ∈ tables_1, d.before a0 Z = true) (ws : List Jvm.Cond) (p1 p2 p3 p4 p5 : Int64) (p6 : Int32) (ar : Addr) (cA : Cell) (h0 : Heap) (n0 : Nat) (fa : Int64) (ta : Int64) (fb : Int64) (gb : Int64) (tb : Int64) (ex : Int32) (b13 : Addr) (b21 : Addr) (bx : Addr) {p e s m below meth c s₁} (Bd : BodyLoose p l x (head1 (Jvm.Cond.code x code maxLocals ret :: ws) room_1) code maxLocals ret e s m #[(.long p1), (.long p2), (.long p3), (.long p4), (.long p5), (.int p6)] below meth c s₁) {vmc} (hZ : Z.Warmed39 (s.setVm vmc).vm) (hown : (s.setVm vmc).vm.findClass "com/example/terse_broker/tersebroker/codec/HandshakeEqualsPinLaw" = some m.cls) (hml : c.maxLocals = 28) {Tc Lc0} (hhc : Heap) (Xc : Stand p l e room_1 (s.setVm vmc) m #[(.long p1), (.long p2), (.long p3), (.long p4), (.long p5), (.int p6)] below meth c Tc Lc0 11 303) (ec : Tc.heap = hhc) (Nc : Fr n0 Lc0) (Zc : n0 ≤ hhc.size) {kwc : Nat} (Sc : s.Since vmc kwc) (kpc : kwc ≤ hhc.size) (prec : ∀ t, Steps p.tables e below (Tc.setTop (mkF m 140 #[.val (.long p1), .second, .val (.long p2), .second, .val (.long p3), .second, .val (.long p4), .second, .val (.long p5), .second, .val (.int p6), .val (.long (4294967295 : Int64)), .second, .val (.long fa), .second, .val (.long ta), .second, .val (.long fb), .second, .val (.long gb), .second, .val (.long tb), .second, .val (.ref b13), .val (.ref b21), .val (.int ex), .val .null, .val (.ref bx)] [])) t → Steps p.tables e below (s₁.setTop (entryFrame m #[(.long p1), (.long p2), (.long p3), (.long p4), (.long p5), (.int p6)] maxLocals)) t) (fc4_0 : Exa Z hhc b13 "com/example/terse_broker/tersebroker/codec/Handshake") (fc4_1 : Fld Z hhc b13 "com/example/terse_broker/tersebroker/codec/Handshake" "maxFragmentSize" "J" (.long fa)) (fc4_2 : Fld Z hhc b13 "com/example/terse_broker/tersebroker/codec/Handshake" "maxAggregateSize" "J" (.long p2)) (fc4_3 : Fld Z hhc b13 "com/example/terse_broker/tersebroker/codec/Handshake" "ackTimeoutMillis" "J" (.long ta)) (fc4_4 : Exa Z hhc b21 "com/example/terse_broker/tersebroker/codec/Handshake") (fc4_5 : Fld Z hhc b21 "com/example/terse_broker/tersebroker/codec/Handshake" "maxFragmentSize" "J" (.long fb)) (fc4_6 : Fld Z hhc b21 "com/example/terse_broker/tersebroker/codec/Handshake" "maxAggregateSize" "J" (.long gb)) (fc4_7 : Fld Z hhc b21 "com/example/terse_broker/tersebroker/codec/Handshake" "ackTimeoutMillis" "J" (.long tb)) (fc4_8 : Exa Z hhc bx "java/lang/Long") (ne_b13_b21 : b13 ≠ b21) (g_b13 : n0 ≤ b13) (sz_b13 : h0.size ≤ b13) (g_b21 : n0 ≤ b21) (sz_b21 : h0.size ≤ b21) (Kk : Keep h0 hhc []) (h_ex : ex = own_eq fa p2 ta fb gb tb) :
    ∃ s₂ o, Steps p.tables e below (s₁.setTop (entryFrame m #[(.long p1), (.long p2), (.long p3), (.long p4), (.long p5), (.int p6)] maxLocals)) s₂ ∧ s₂.status = .running ∧ Ended s₂ below o ∧ ∃ v L, o = .returned v ∧ Q_0 Z p1 p2 p3 p4 p5 p6 ar cA h0 n0 v s₂.heap L ∧ ReturnedEndW s o s₂ L room_1.cells room_1.slots := by
  have hx := Bd.exec
  have hby := Bd.bytes
  have hnm := (name_of_methodNamed Bd.named Bd.method).1
  have pre78 : ∀ t, Steps p.tables e below (Tc.setTop (mkF m 144 #[.val (.long p1), .second, .val (.long p2), .second, .val (.long p3), .second, .val (.long p4), .second, .val (.long p5), .second, .val (.int p6), .val (.long (4294967295 : Int64)), .second, .val (.long fa), .second, .val (.long ta), .second, .val (.long fb), .second, .val (.long gb), .second, .val (.long tb), .second, .val (.ref b13), .val (.ref b21), .val (.int ex), .val .null, .val (.ref bx)] [(.ref b21), (.ref b13)])) t → Steps p.tables e below (s₁.setTop (entryFrame m #[(.long p1), (.long p2), (.long p3), (.long p4), (.long p5), (.int p6)] maxLocals)) t := fun t k => prec t (by
    show Steps p.tables e below (Tc.setTop (mkF m 140 #[.val (.long p1), .second, .val (.long p2), .second, .val (.long p3), .second, .val (.long p4), .second, .val (.long p5), .second, .val (.int p6), .val (.long (4294967295 : Int64)), .second, .val (.long fa), .second, .val (.long ta), .second, .val (.long fb), .second, .val (.long gb), .second, .val (.long tb), .second, .val (.ref b13), .val (.ref b21), .val (.int ex), .val .null, .val (.ref bx)] [])) _
    refine XS.aload Xc.here hx rfl (hb hby at_140) rfl rfl ?_
    show Steps p.tables e below (Tc.setTop (mkF m 142 #[.val (.long p1), .second, .val (.long p2), .second, .val (.long p3), .second, .val (.long p4), .second, .val (.long p5), .second, .val (.int p6), .val (.long (4294967295 : Int64)), .second, .val (.long fa), .second, .val (.long ta), .second, .val (.long fb), .second, .val (.long gb), .second, .val (.long tb), .second, .val (.ref b13), .val (.ref b21), .val (.int ex), .val .null, .val (.ref bx)] [(.ref b13)])) _
    refine XS.aload Xc.here hx rfl (hb hby at_142) rfl rfl ?_
    show Steps p.tables e below (Tc.setTop (mkF m 144 #[.val (.long p1), .second, .val (.long p2), .second, .val (.long p3), .second, .val (.long p4), .second, .val (.long p5), .second, .val (.int p6), .val (.long (4294967295 : Int64)), .second, .val (.long fa), .second, .val (.long ta), .second, .val (.long fb), .second, .val (.long gb), .second, .val (.long tb), .second, .val (.ref b13), .val (.ref b21), .val (.int ex), .val .null, .val (.ref bx)] [(.ref b21), (.ref b13)])) _
    exact k)
  obtain ⟨cq79, kq79, q79a, q79b, q79c⟩ := isOf hZ ec fc4_0
  obtain ⟨_, _, ⟨T79, L79, kk79, nn79⟩, -, X79, ⟨Lc79, hQ79, l79, y79, z79⟩, st79⟩ := Xc.virtualBack hx (y := (⟨"com/example/terse_broker/tersebroker/codec/Handshake", "equals", "(Ljava/lang/Object;)Z"⟩ : MethodName)) (z := (⟨"com/example/terse_broker/tersebroker/codec/Handshake", "equals", "(Ljava/lang/Object;)Z"⟩ : MethodName)) hown (mvT hZ (hw _ (List.mem_of_getElem? (i := 42) rfl))) (mvT hZ (hw _ (List.mem_of_getElem? (i := 43) rfl))) (notFace_of_selects (args := #[]) (mvT hZ (hw _ (List.mem_of_getElem? (i := 45) rfl)))) (mvT hZ (hw _ (List.mem_of_getElem? (i := 45) rfl))) (mvT hZ (hw _ (List.mem_of_getElem? (i := 44) rfl))) (by decide) (backOf (W := 0) (rm_eqh l Z a0 hw [] b13 b21 fa p2 ta fb gb tb hhc n0 Zc fc4_4 fc4_1 fc4_5 fc4_2 fc4_6 fc4_3 fc4_7) hZ (hw _ (List.mem_of_getElem? (i := 46) rfl)) (hw _ (List.mem_of_getElem? (i := 3) rfl)) (by decide) (by decide)) q79a q79c (g := (mkF m 144 #[.val (.long p1), .second, .val (.long p2), .second, .val (.long p3), .second, .val (.long p4), .second, .val (.long p5), .second, .val (.int p6), .val (.long (4294967295 : Int64)), .second, .val (.long fa), .second, .val (.long ta), .second, .val (.long fb), .second, .val (.long gb), .second, .val (.long tb), .second, .val (.ref b13), .val (.ref b21), .val (.int ex), .val .null, .val (.ref bx)] [(.ref b21), (.ref b13)])) rfl (by rw [hml]; rfl) (Steps.refl _) (argsL := [(.ref b21)]) (rest := []) (lenOf pd__Ljava_lang_Object__Z rfl) rfl (by show 2 * 0 + _ ≤ _; exact Nat.le_of_eq rfl) (hb hby at_144) (fun _ _ => ⟨rfl, ec, (by decide : 11 + 0 ≤ _), (by decide : 303 + 0 ≤ _)⟩)
  dsimp only [Pt.U, Pt.locs, Pt.cells, Pt.slots] at X79 l79 y79 z79 st79 hQ79
  subst l79 y79 z79
  obtain ⟨rfl, N79q, eq79⟩ := hQ79
  have N79 := Fr.app Nc N79q
  have pre80 : ∀ t, Steps p.tables e below (T79.setTop (mkF m 156 #[.val (.long p1), .second, .val (.long p2), .second, .val (.long p3), .second, .val (.long p4), .second, .val (.long p5), .second, .val (.int p6), .val (.long (4294967295 : Int64)), .second, .val (.long fa), .second, .val (.long ta), .second, .val (.long fb), .second, .val (.long gb), .second, .val (.long tb), .second, .val (.ref b13), .val (.ref b21), .val (.int ex), .val .null, .val (.ref bx)] [(.ref b13), (.ref b21)])) t → Steps p.tables e below (s₁.setTop (entryFrame m #[(.long p1), (.long p2), (.long p3), (.long p4), (.long p5), (.int p6)] maxLocals)) t := fun t k => pre78 t (by
    show Steps p.tables e below (Tc.setTop (mkF m 144 #[.val (.long p1), .second, .val (.long p2), .second, .val (.long p3), .second, .val (.long p4), .second, .val (.long p5), .second, .val (.int p6), .val (.long (4294967295 : Int64)), .second, .val (.long fa), .second, .val (.long ta), .second, .val (.long fb), .second, .val (.long gb), .second, .val (.long tb), .second, .val (.ref b13), .val (.ref b21), .val (.int ex), .val .null, .val (.ref bx)] [(.ref b21), (.ref b13)])) _
    refine st79.trans ?_
    show Steps p.tables e below (T79.setTop (mkF m 147 #[.val (.long p1), .second, .val (.long p2), .second, .val (.long p3), .second, .val (.long p4), .second, .val (.long p5), .second, .val (.int p6), .val (.long (4294967295 : Int64)), .second, .val (.long fa), .second, .val (.long ta), .second, .val (.long fb), .second, .val (.long gb), .second, .val (.long tb), .second, .val (.ref b13), .val (.ref b21), .val (.int ex), .val .null, .val (.ref bx)] [(.int (own_eq fa p2 ta fb gb tb))])) _
    rw [← h_ex]
    show Steps p.tables e below (T79.setTop (mkF m 147 #[.val (.long p1), .second, .val (.long p2), .second, .val (.long p3), .second, .val (.long p4), .second, .val (.long p5), .second, .val (.int p6), .val (.long (4294967295 : Int64)), .second, .val (.long fa), .second, .val (.long ta), .second, .val (.long fb), .second, .val (.long gb), .second, .val (.long tb), .second, .val (.ref b13), .val (.ref b21), .val (.int ex), .val .null, .val (.ref bx)] [(.int ex)])) _
    refine XS.iload X79.here hx rfl (hb hby at_147) rfl ?_
    show Steps p.tables e below (T79.setTop (mkF m 149 #[.val (.long p1), .second, .val (.long p2), .second, .val (.long p3), .second, .val (.long p4), .second, .val (.long p5), .second, .val (.int p6), .val (.long (4294967295 : Int64)), .second, .val (.long fa), .second, .val (.long ta), .second, .val (.long fb), .second, .val (.long gb), .second, .val (.long tb), .second, .val (.ref b13), .val (.ref b21), .val (.int ex), .val .null, .val (.ref bx)] [(.int ex), (.int ex)])) _
    refine XS.icmpNo X79.here hx rfl (hb hby at_149) rfl (XT.ii_ne_f rfl) ?_
    show Steps p.tables e below (T79.setTop (mkF m 152 #[.val (.long p1), .second, .val (.long p2), .second, .val (.long p3), .second, .val (.long p4), .second, .val (.long p5), .second, .val (.int p6), .val (.long (4294967295 : Int64)), .second, .val (.long fa), .second, .val (.long ta), .second, .val (.long fb), .second, .val (.long gb), .second, .val (.long tb), .second, .val (.ref b13), .val (.ref b21), .val (.int ex), .val .null, .val (.ref bx)] [])) _
    refine XS.aload X79.here hx rfl (hb hby at_152) rfl rfl ?_
    show Steps p.tables e below (T79.setTop (mkF m 154 #[.val (.long p1), .second, .val (.long p2), .second, .val (.long p3), .second, .val (.long p4), .second, .val (.long p5), .second, .val (.int p6), .val (.long (4294967295 : Int64)), .second, .val (.long fa), .second, .val (.long ta), .second, .val (.long fb), .second, .val (.long gb), .second, .val (.long tb), .second, .val (.ref b13), .val (.ref b21), .val (.int ex), .val .null, .val (.ref bx)] [(.ref b21)])) _
    refine XS.aload X79.here hx rfl (hb hby at_154) rfl rfl ?_
    show Steps p.tables e below (T79.setTop (mkF m 156 #[.val (.long p1), .second, .val (.long p2), .second, .val (.long p3), .second, .val (.long p4), .second, .val (.long p5), .second, .val (.int p6), .val (.long (4294967295 : Int64)), .second, .val (.long fa), .second, .val (.long ta), .second, .val (.long fb), .second, .val (.long gb), .second, .val (.long tb), .second, .val (.ref b13), .val (.ref b21), .val (.int ex), .val .null, .val (.ref bx)] [(.ref b13), (.ref b21)])) _
    exact k)
  obtain ⟨cq81, kq81, q81a, q81b, q81c⟩ := isOf hZ eq79 fc4_4
  obtain ⟨_, _, ⟨T81, L81, kk81, nn81⟩, -, X81, ⟨Lc81, hQ81, l81, y81, z81⟩, st81⟩ := X79.virtualBack hx (y := (⟨"com/example/terse_broker/tersebroker/codec/Handshake", "equals", "(Ljava/lang/Object;)Z"⟩ : MethodName)) (z := (⟨"com/example/terse_broker/tersebroker/codec/Handshake", "equals", "(Ljava/lang/Object;)Z"⟩ : MethodName)) hown (mvT hZ (hw _ (List.mem_of_getElem? (i := 42) rfl))) (mvT hZ (hw _ (List.mem_of_getElem? (i := 43) rfl))) (notFace_of_selects (args := #[]) (mvT hZ (hw _ (List.mem_of_getElem? (i := 45) rfl)))) (mvT hZ (hw _ (List.mem_of_getElem? (i := 45) rfl))) (mvT hZ (hw _ (List.mem_of_getElem? (i := 44) rfl))) (by decide) (backOf (W := 0) (rm_eqh l Z a0 hw [] b21 b13 fb gb tb fa p2 ta hhc n0 Zc fc4_0 fc4_5 fc4_1 fc4_6 fc4_2 fc4_7 fc4_3) hZ (hw _ (List.mem_of_getElem? (i := 46) rfl)) (hw _ (List.mem_of_getElem? (i := 3) rfl)) (by decide) (by decide)) q81a q81c (g := (mkF m 156 #[.val (.long p1), .second, .val (.long p2), .second, .val (.long p3), .second, .val (.long p4), .second, .val (.long p5), .second, .val (.int p6), .val (.long (4294967295 : Int64)), .second, .val (.long fa), .second, .val (.long ta), .second, .val (.long fb), .second, .val (.long gb), .second, .val (.long tb), .second, .val (.ref b13), .val (.ref b21), .val (.int ex), .val .null, .val (.ref bx)] [(.ref b13), (.ref b21)])) rfl (by rw [hml]; rfl) (Steps.refl _) (argsL := [(.ref b13)]) (rest := []) (lenOf pd__Ljava_lang_Object__Z rfl) rfl (by show 2 * 0 + _ ≤ _; exact Nat.le_of_eq rfl) (hb hby at_156) (fun _ _ => ⟨rfl, eq79, (by decide : 11 + 0 ≤ _), (by decide : 303 + 0 ≤ _)⟩)
  dsimp only [Pt.U, Pt.locs, Pt.cells, Pt.slots] at X81 l81 y81 z81 st81 hQ81
  subst l81 y81 z81
  obtain ⟨rfl, N81q, eq81⟩ := hQ81
  have N81 := Fr.app N79 N81q
  have h_es := (own_eqS fa p2 ta fb gb tb).trans h_ex.symm
  have pre82 : ∀ t, Steps p.tables e below (T81.setTop (mkF m 168 #[.val (.long p1), .second, .val (.long p2), .second, .val (.long p3), .second, .val (.long p4), .second, .val (.long p5), .second, .val (.int p6), .val (.long (4294967295 : Int64)), .second, .val (.long fa), .second, .val (.long ta), .second, .val (.long fb), .second, .val (.long gb), .second, .val (.long tb), .second, .val (.ref b13), .val (.ref b21), .val (.int ex), .val .null, .val (.ref bx)] [(.ref b13), (.ref b13)])) t → Steps p.tables e below (s₁.setTop (entryFrame m #[(.long p1), (.long p2), (.long p3), (.long p4), (.long p5), (.int p6)] maxLocals)) t := fun t k => pre80 t (by
    show Steps p.tables e below (T79.setTop (mkF m 156 #[.val (.long p1), .second, .val (.long p2), .second, .val (.long p3), .second, .val (.long p4), .second, .val (.long p5), .second, .val (.int p6), .val (.long (4294967295 : Int64)), .second, .val (.long fa), .second, .val (.long ta), .second, .val (.long fb), .second, .val (.long gb), .second, .val (.long tb), .second, .val (.ref b13), .val (.ref b21), .val (.int ex), .val .null, .val (.ref bx)] [(.ref b13), (.ref b21)])) _
    refine st81.trans ?_
    show Steps p.tables e below (T81.setTop (mkF m 159 #[.val (.long p1), .second, .val (.long p2), .second, .val (.long p3), .second, .val (.long p4), .second, .val (.long p5), .second, .val (.int p6), .val (.long (4294967295 : Int64)), .second, .val (.long fa), .second, .val (.long ta), .second, .val (.long fb), .second, .val (.long gb), .second, .val (.long tb), .second, .val (.ref b13), .val (.ref b21), .val (.int ex), .val .null, .val (.ref bx)] [(.int (own_eq fb gb tb fa p2 ta))])) _
    rw [h_es]
    show Steps p.tables e below (T81.setTop (mkF m 159 #[.val (.long p1), .second, .val (.long p2), .second, .val (.long p3), .second, .val (.long p4), .second, .val (.long p5), .second, .val (.int p6), .val (.long (4294967295 : Int64)), .second, .val (.long fa), .second, .val (.long ta), .second, .val (.long fb), .second, .val (.long gb), .second, .val (.long tb), .second, .val (.ref b13), .val (.ref b21), .val (.int ex), .val .null, .val (.ref bx)] [(.int ex)])) _
    refine XS.iload X81.here hx rfl (hb hby at_159) rfl ?_
    show Steps p.tables e below (T81.setTop (mkF m 161 #[.val (.long p1), .second, .val (.long p2), .second, .val (.long p3), .second, .val (.long p4), .second, .val (.long p5), .second, .val (.int p6), .val (.long (4294967295 : Int64)), .second, .val (.long fa), .second, .val (.long ta), .second, .val (.long fb), .second, .val (.long gb), .second, .val (.long tb), .second, .val (.ref b13), .val (.ref b21), .val (.int ex), .val .null, .val (.ref bx)] [(.int ex), (.int ex)])) _
    refine XS.icmpNo X81.here hx rfl (hb hby at_161) rfl (XT.ii_ne_f rfl) ?_
    show Steps p.tables e below (T81.setTop (mkF m 164 #[.val (.long p1), .second, .val (.long p2), .second, .val (.long p3), .second, .val (.long p4), .second, .val (.long p5), .second, .val (.int p6), .val (.long (4294967295 : Int64)), .second, .val (.long fa), .second, .val (.long ta), .second, .val (.long fb), .second, .val (.long gb), .second, .val (.long tb), .second, .val (.ref b13), .val (.ref b21), .val (.int ex), .val .null, .val (.ref bx)] [])) _
    refine XS.aload X81.here hx rfl (hb hby at_164) rfl rfl ?_
    show Steps p.tables e below (T81.setTop (mkF m 166 #[.val (.long p1), .second, .val (.long p2), .second, .val (.long p3), .second, .val (.long p4), .second, .val (.long p5), .second, .val (.int p6), .val (.long (4294967295 : Int64)), .second, .val (.long fa), .second, .val (.long ta), .second, .val (.long fb), .second, .val (.long gb), .second, .val (.long tb), .second, .val (.ref b13), .val (.ref b21), .val (.int ex), .val .null, .val (.ref bx)] [(.ref b13)])) _
    refine XS.aload X81.here hx rfl (hb hby at_166) rfl rfl ?_
    show Steps p.tables e below (T81.setTop (mkF m 168 #[.val (.long p1), .second, .val (.long p2), .second, .val (.long p3), .second, .val (.long p4), .second, .val (.long p5), .second, .val (.int p6), .val (.long (4294967295 : Int64)), .second, .val (.long fa), .second, .val (.long ta), .second, .val (.long fb), .second, .val (.long gb), .second, .val (.long tb), .second, .val (.ref b13), .val (.ref b21), .val (.int ex), .val .null, .val (.ref bx)] [(.ref b13), (.ref b13)])) _
    exact k)
  obtain ⟨cq83, kq83, q83a, q83b, q83c⟩ := isOf hZ eq81 fc4_0
  obtain ⟨_, _, ⟨T83, L83, kk83, nn83⟩, -, X83, ⟨Lc83, hQ83, l83, y83, z83⟩, st83⟩ := X81.virtualBack hx (y := (⟨"com/example/terse_broker/tersebroker/codec/Handshake", "equals", "(Ljava/lang/Object;)Z"⟩ : MethodName)) (z := (⟨"com/example/terse_broker/tersebroker/codec/Handshake", "equals", "(Ljava/lang/Object;)Z"⟩ : MethodName)) hown (mvT hZ (hw _ (List.mem_of_getElem? (i := 42) rfl))) (mvT hZ (hw _ (List.mem_of_getElem? (i := 43) rfl))) (notFace_of_selects (args := #[]) (mvT hZ (hw _ (List.mem_of_getElem? (i := 45) rfl)))) (mvT hZ (hw _ (List.mem_of_getElem? (i := 45) rfl))) (mvT hZ (hw _ (List.mem_of_getElem? (i := 44) rfl))) (by decide) (backOf (W := 0) (rm_eqh l Z a0 hw [] b13 b13 fa p2 ta fa p2 ta hhc n0 Zc fc4_0 fc4_1 fc4_1 fc4_2 fc4_2 fc4_3 fc4_3) hZ (hw _ (List.mem_of_getElem? (i := 46) rfl)) (hw _ (List.mem_of_getElem? (i := 3) rfl)) (by decide) (by decide)) q83a q83c (g := (mkF m 168 #[.val (.long p1), .second, .val (.long p2), .second, .val (.long p3), .second, .val (.long p4), .second, .val (.long p5), .second, .val (.int p6), .val (.long (4294967295 : Int64)), .second, .val (.long fa), .second, .val (.long ta), .second, .val (.long fb), .second, .val (.long gb), .second, .val (.long tb), .second, .val (.ref b13), .val (.ref b21), .val (.int ex), .val .null, .val (.ref bx)] [(.ref b13), (.ref b13)])) rfl (by rw [hml]; rfl) (Steps.refl _) (argsL := [(.ref b13)]) (rest := []) (lenOf pd__Ljava_lang_Object__Z rfl) rfl (by show 2 * 0 + _ ≤ _; exact Nat.le_of_eq rfl) (hb hby at_168) (fun _ _ => ⟨rfl, eq81, (by decide : 11 + 0 ≤ _), (by decide : 303 + 0 ≤ _)⟩)
  dsimp only [Pt.U, Pt.locs, Pt.cells, Pt.slots] at X83 l83 y83 z83 st83 hQ83
  subst l83 y83 z83
  obtain ⟨rfl, N83q, eq83⟩ := hQ83
  have N83 := Fr.app N81 N83q
  have pre84 : ∀ t, Steps p.tables e below (T83.setTop (mkF m 178 #[.val (.long p1), .second, .val (.long p2), .second, .val (.long p3), .second, .val (.long p4), .second, .val (.long p5), .second, .val (.int p6), .val (.long (4294967295 : Int64)), .second, .val (.long fa), .second, .val (.long ta), .second, .val (.long fb), .second, .val (.long gb), .second, .val (.long tb), .second, .val (.ref b13), .val (.ref b21), .val (.int ex), .val .null, .val (.ref bx)] [.null, (.ref b13)])) t → Steps p.tables e below (s₁.setTop (entryFrame m #[(.long p1), (.long p2), (.long p3), (.long p4), (.long p5), (.int p6)] maxLocals)) t := fun t k => pre82 t (by
    show Steps p.tables e below (T81.setTop (mkF m 168 #[.val (.long p1), .second, .val (.long p2), .second, .val (.long p3), .second, .val (.long p4), .second, .val (.long p5), .second, .val (.int p6), .val (.long (4294967295 : Int64)), .second, .val (.long fa), .second, .val (.long ta), .second, .val (.long fb), .second, .val (.long gb), .second, .val (.long tb), .second, .val (.ref b13), .val (.ref b21), .val (.int ex), .val .null, .val (.ref bx)] [(.ref b13), (.ref b13)])) _
    refine st83.trans ?_
    show Steps p.tables e below (T83.setTop (mkF m 171 #[.val (.long p1), .second, .val (.long p2), .second, .val (.long p3), .second, .val (.long p4), .second, .val (.long p5), .second, .val (.int p6), .val (.long (4294967295 : Int64)), .second, .val (.long fa), .second, .val (.long ta), .second, .val (.long fb), .second, .val (.long gb), .second, .val (.long tb), .second, .val (.ref b13), .val (.ref b21), .val (.int ex), .val .null, .val (.ref bx)] [(.int (own_eq fa p2 ta fa p2 ta))])) _
    rw [own_eqR]
    show Steps p.tables e below (T83.setTop (mkF m 171 #[.val (.long p1), .second, .val (.long p2), .second, .val (.long p3), .second, .val (.long p4), .second, .val (.long p5), .second, .val (.int p6), .val (.long (4294967295 : Int64)), .second, .val (.long fa), .second, .val (.long ta), .second, .val (.long fb), .second, .val (.long gb), .second, .val (.long tb), .second, .val (.ref b13), .val (.ref b21), .val (.int ex), .val .null, .val (.ref bx)] [(.int (1 : Int32))])) _
    refine XS.ifNo X83.here hx rfl (hb hby at_171) rfl (XT.i0_eq_f (by decide)) ?_
    show Steps p.tables e below (T83.setTop (mkF m 174 #[.val (.long p1), .second, .val (.long p2), .second, .val (.long p3), .second, .val (.long p4), .second, .val (.long p5), .second, .val (.int p6), .val (.long (4294967295 : Int64)), .second, .val (.long fa), .second, .val (.long ta), .second, .val (.long fb), .second, .val (.long gb), .second, .val (.long tb), .second, .val (.ref b13), .val (.ref b21), .val (.int ex), .val .null, .val (.ref bx)] [])) _
    refine XS.aload X83.here hx rfl (hb hby at_174) rfl rfl ?_
    show Steps p.tables e below (T83.setTop (mkF m 176 #[.val (.long p1), .second, .val (.long p2), .second, .val (.long p3), .second, .val (.long p4), .second, .val (.long p5), .second, .val (.int p6), .val (.long (4294967295 : Int64)), .second, .val (.long fa), .second, .val (.long ta), .second, .val (.long fb), .second, .val (.long gb), .second, .val (.long tb), .second, .val (.ref b13), .val (.ref b21), .val (.int ex), .val .null, .val (.ref bx)] [(.ref b13)])) _
    refine XS.aload X83.here hx rfl (hb hby at_176) rfl rfl ?_
    show Steps p.tables e below (T83.setTop (mkF m 178 #[.val (.long p1), .second, .val (.long p2), .second, .val (.long p3), .second, .val (.long p4), .second, .val (.long p5), .second, .val (.int p6), .val (.long (4294967295 : Int64)), .second, .val (.long fa), .second, .val (.long ta), .second, .val (.long fb), .second, .val (.long gb), .second, .val (.long tb), .second, .val (.ref b13), .val (.ref b21), .val (.int ex), .val .null, .val (.ref bx)] [.null, (.ref b13)])) _
    exact k)
  exact rs_0_5 l Z a0 hw ws p1 p2 p3 p4 p5 p6 ar cA h0 n0 fa ta fb gb tb ex b13 b21 bx Bd hZ hown hml hhc X83 eq83 N83 Zc Sc kpc pre84 fc4_0 fc4_1 fc4_2 fc4_3 fc4_4 fc4_5 fc4_6 fc4_7 fc4_8 ne_b13_b21 g_b13 sz_b13 g_b21 sz_b21 Kk
set_option maxRecDepth 65536 in
set_option maxHeartbeats 40000000 in
theorem rs_0_3 (l : Launch) (Z : State) (a0 : Array Value) (hw : ∀ d ∈ tables_1, d.before a0 Z = true) (ws : List Jvm.Cond) (p1 p2 p3 p4 p5 : Int64) (p6 : Int32) (ar : Addr) (cA : Cell) (h0 : Heap) (n0 : Nat) (fa : Int64) (ta : Int64) (fb : Int64) (gb : Int64) (tb : Int64) (b13 : Addr) (b21 : Addr) {p e s m below meth c s₁} (Bd : BodyLoose p l x (head1 (Jvm.Cond.code x code maxLocals ret :: ws) room_1) code maxLocals ret e s m #[(.long p1), (.long p2), (.long p3), (.long p4), (.long p5), (.int p6)] below meth c s₁) {vmc} (hZ : Z.Warmed39 (s.setVm vmc).vm) (hown : (s.setVm vmc).vm.findClass "com/example/terse_broker/tersebroker/codec/HandshakeEqualsPinLaw" = some m.cls) (hml : c.maxLocals = 28) {Tc Lc0} (hhc : Heap) (Xc : Stand p l e room_1 (s.setVm vmc) m #[(.long p1), (.long p2), (.long p3), (.long p4), (.long p5), (.int p6)] below meth c Tc Lc0 10 302) (ec : Tc.heap = hhc) (Nc : Fr n0 Lc0) (Zc : n0 ≤ hhc.size) {kwc : Nat} (Sc : s.Since vmc kwc) (kpc : kwc ≤ hhc.size) (prec : ∀ t, Steps p.tables e below (Tc.setTop (mkF m 100 #[.val (.long p1), .second, .val (.long p2), .second, .val (.long p3), .second, .val (.long p4), .second, .val (.long p5), .second, .val (.int p6), .val (.long (4294967295 : Int64)), .second, .val (.long fa), .second, .val (.long ta), .second, .val (.long fb), .second, .val (.long gb), .second, .val (.long tb), .second, .val (.ref b13), .val (.ref b21), .unset, .unset, .unset] [])) t → Steps p.tables e below (s₁.setTop (entryFrame m #[(.long p1), (.long p2), (.long p3), (.long p4), (.long p5), (.int p6)] maxLocals)) t) (fc3_0 : Exa Z hhc b13 "com/example/terse_broker/tersebroker/codec/Handshake") (fc3_1 : Fld Z hhc b13 "com/example/terse_broker/tersebroker/codec/Handshake" "maxFragmentSize" "J" (.long fa)) (fc3_2 : Fld Z hhc b13 "com/example/terse_broker/tersebroker/codec/Handshake" "maxAggregateSize" "J" (.long p2)) (fc3_3 : Fld Z hhc b13 "com/example/terse_broker/tersebroker/codec/Handshake" "ackTimeoutMillis" "J" (.long ta)) (fc3_4 : Exa Z hhc b21 "com/example/terse_broker/tersebroker/codec/Handshake") (fc3_5 : Fld Z hhc b21 "com/example/terse_broker/tersebroker/codec/Handshake" "maxFragmentSize" "J" (.long fb)) (fc3_6 : Fld Z hhc b21 "com/example/terse_broker/tersebroker/codec/Handshake" "maxAggregateSize" "J" (.long gb)) (fc3_7 : Fld Z hhc b21 "com/example/terse_broker/tersebroker/codec/Handshake" "ackTimeoutMillis" "J" (.long tb)) (ne_b13_b21 : b13 ≠ b21) (g_b13 : n0 ≤ b13) (sz_b13 : h0.size ≤ b13) (g_b21 : n0 ≤ b21) (sz_b21 : h0.size ≤ b21) (Kk : Keep h0 hhc []) (b_fa : ¬ fa < (0 : Int64) ∧ ¬ (4294967295 : Int64) < fa) (HS : Sta Z h0 "java/lang/Long$LongCache" "cache" "[Ljava/lang/Long;" (.ref ar)) (HA : Arr Z h0 ar cA (.object "java/lang/Long")) (HZ : 256 ≤ cA.slots.size) (HC : ∀ i, i < 256 → ∃ b, cA.slots[i]? = some (.ref b) ∧ Exa Z h0 b "java/lang/Long") :
    ∃ s₂ o, Steps p.tables e below (s₁.setTop (entryFrame m #[(.long p1), (.long p2), (.long p3), (.long p4), (.long p5), (.int p6)] maxLocals)) s₂ ∧ s₂.status = .running ∧ Ended s₂ below o ∧ ∃ v L, o = .returned v ∧ Q_0 Z p1 p2 p3 p4 p5 p6 ar cA h0 n0 v s₂.heap L ∧ ReturnedEndW s o s₂ L room_1.cells room_1.slots := by
  have hx := Bd.exec
  have hby := Bd.bytes
  have hnm := (name_of_methodNamed Bd.named Bd.method).1
  have pre29 : ∀ t, Steps p.tables e below (Tc.setTop (mkF m 105 #[.val (.long p1), .second, .val (.long p2), .second, .val (.long p3), .second, .val (.long p4), .second, .val (.long p5), .second, .val (.int p6), .val (.long (4294967295 : Int64)), .second, .val (.long fa), .second, .val (.long ta), .second, .val (.long fb), .second, .val (.long gb), .second, .val (.long tb), .second, .val (.ref b13), .val (.ref b21), .unset, .unset, .unset] [(.int (XT.cmpL fa fb))])) t → Steps p.tables e below (s₁.setTop (entryFrame m #[(.long p1), (.long p2), (.long p3), (.long p4), (.long p5), (.int p6)] maxLocals)) t := fun t k => prec t (by
    show Steps p.tables e below (Tc.setTop (mkF m 100 #[.val (.long p1), .second, .val (.long p2), .second, .val (.long p3), .second, .val (.long p4), .second, .val (.long p5), .second, .val (.int p6), .val (.long (4294967295 : Int64)), .second, .val (.long fa), .second, .val (.long ta), .second, .val (.long fb), .second, .val (.long gb), .second, .val (.long tb), .second, .val (.ref b13), .val (.ref b21), .unset, .unset, .unset] [])) _
    refine XT.lload Xc.here hx rfl (hb hby at_100) rfl ?_
    show Steps p.tables e below (Tc.setTop (mkF m 102 #[.val (.long p1), .second, .val (.long p2), .second, .val (.long p3), .second, .val (.long p4), .second, .val (.long p5), .second, .val (.int p6), .val (.long (4294967295 : Int64)), .second, .val (.long fa), .second, .val (.long ta), .second, .val (.long fb), .second, .val (.long gb), .second, .val (.long tb), .second, .val (.ref b13), .val (.ref b21), .unset, .unset, .unset] [(.long fa)])) _
    refine XT.lload Xc.here hx rfl (hb hby at_102) rfl ?_
    show Steps p.tables e below (Tc.setTop (mkF m 104 #[.val (.long p1), .second, .val (.long p2), .second, .val (.long p3), .second, .val (.long p4), .second, .val (.long p5), .second, .val (.int p6), .val (.long (4294967295 : Int64)), .second, .val (.long fa), .second, .val (.long ta), .second, .val (.long fb), .second, .val (.long gb), .second, .val (.long tb), .second, .val (.ref b13), .val (.ref b21), .unset, .unset, .unset] [(.long fb), (.long fa)])) _
    refine XT.lcmp Xc.here hx rfl (hb hby at_104) rfl ?_
    show Steps p.tables e below (Tc.setTop (mkF m 105 #[.val (.long p1), .second, .val (.long p2), .second, .val (.long p3), .second, .val (.long p4), .second, .val (.long p5), .second, .val (.int p6), .val (.long (4294967295 : Int64)), .second, .val (.long fa), .second, .val (.long ta), .second, .val (.long fb), .second, .val (.long gb), .second, .val (.long tb), .second, .val (.ref b13), .val (.ref b21), .unset, .unset, .unset] [(.int (XT.cmpL fa fb))])) _
    exact k)
  obtain ⟨ex, h_ex, pre_ex⟩ : ∃ z : Int32, (z = own_eq fa p2 ta fb gb tb) ∧ ∀ t, Steps p.tables e below (Tc.setTop (mkF m 128 #[.val (.long p1), .second, .val (.long p2), .second, .val (.long p3), .second, .val (.long p4), .second, .val (.long p5), .second, .val (.int p6), .val (.long (4294967295 : Int64)), .second, .val (.long fa), .second, .val (.long ta), .second, .val (.long fb), .second, .val (.long gb), .second, .val (.long tb), .second, .val (.ref b13), .val (.ref b21), .unset, .unset, .unset] [(.int z)])) t → Steps p.tables e below (s₁.setTop (entryFrame m #[(.long p1), (.long p2), (.long p3), (.long p4), (.long p5), (.int p6)] maxLocals)) t := by
    by_cases hc0 : fa = fb
    · skip
      have pre30 : ∀ t, Steps p.tables e below (Tc.setTop (mkF m 112 #[.val (.long p1), .second, .val (.long p2), .second, .val (.long p3), .second, .val (.long p4), .second, .val (.long p5), .second, .val (.int p6), .val (.long (4294967295 : Int64)), .second, .val (.long fa), .second, .val (.long ta), .second, .val (.long fb), .second, .val (.long gb), .second, .val (.long tb), .second, .val (.ref b13), .val (.ref b21), .unset, .unset, .unset] [(.int (XT.cmpL p2 gb))])) t → Steps p.tables e below (s₁.setTop (entryFrame m #[(.long p1), (.long p2), (.long p3), (.long p4), (.long p5), (.int p6)] maxLocals)) t := fun t k => pre29 t (by
        show Steps p.tables e below (Tc.setTop (mkF m 105 #[.val (.long p1), .second, .val (.long p2), .second, .val (.long p3), .second, .val (.long p4), .second, .val (.long p5), .second, .val (.int p6), .val (.long (4294967295 : Int64)), .second, .val (.long fa), .second, .val (.long ta), .second, .val (.long fb), .second, .val (.long gb), .second, .val (.long tb), .second, .val (.ref b13), .val (.ref b21), .unset, .unset, .unset] [(.int (XT.cmpL fa fb))])) _
        refine XS.ifNo Xc.here hx rfl (hb hby at_105) rfl (XT.ll_ne_f hc0) ?_
        show Steps p.tables e below (Tc.setTop (mkF m 108 #[.val (.long p1), .second, .val (.long p2), .second, .val (.long p3), .second, .val (.long p4), .second, .val (.long p5), .second, .val (.int p6), .val (.long (4294967295 : Int64)), .second, .val (.long fa), .second, .val (.long ta), .second, .val (.long fb), .second, .val (.long gb), .second, .val (.long tb), .second, .val (.ref b13), .val (.ref b21), .unset, .unset, .unset] [])) _
        refine XT.lloadN Xc.here hx rfl (hb hby at_108) rfl ?_
        show Steps p.tables e below (Tc.setTop (mkF m 109 #[.val (.long p1), .second, .val (.long p2), .second, .val (.long p3), .second, .val (.long p4), .second, .val (.long p5), .second, .val (.int p6), .val (.long (4294967295 : Int64)), .second, .val (.long fa), .second, .val (.long ta), .second, .val (.long fb), .second, .val (.long gb), .second, .val (.long tb), .second, .val (.ref b13), .val (.ref b21), .unset, .unset, .unset] [(.long p2)])) _
        refine XT.lload Xc.here hx rfl (hb hby at_109) rfl ?_
        show Steps p.tables e below (Tc.setTop (mkF m 111 #[.val (.long p1), .second, .val (.long p2), .second, .val (.long p3), .second, .val (.long p4), .second, .val (.long p5), .second, .val (.int p6), .val (.long (4294967295 : Int64)), .second, .val (.long fa), .second, .val (.long ta), .second, .val (.long fb), .second, .val (.long gb), .second, .val (.long tb), .second, .val (.ref b13), .val (.ref b21), .unset, .unset, .unset] [(.long gb), (.long p2)])) _
        refine XT.lcmp Xc.here hx rfl (hb hby at_111) rfl ?_
        show Steps p.tables e below (Tc.setTop (mkF m 112 #[.val (.long p1), .second, .val (.long p2), .second, .val (.long p3), .second, .val (.long p4), .second, .val (.long p5), .second, .val (.int p6), .val (.long (4294967295 : Int64)), .second, .val (.long fa), .second, .val (.long ta), .second, .val (.long fb), .second, .val (.long gb), .second, .val (.long tb), .second, .val (.ref b13), .val (.ref b21), .unset, .unset, .unset] [(.int (XT.cmpL p2 gb))])) _
        exact k)
      by_cases hc1 : p2 = gb
      · skip
        have pre31 : ∀ t, Steps p.tables e below (Tc.setTop (mkF m 120 #[.val (.long p1), .second, .val (.long p2), .second, .val (.long p3), .second, .val (.long p4), .second, .val (.long p5), .second, .val (.int p6), .val (.long (4294967295 : Int64)), .second, .val (.long fa), .second, .val (.long ta), .second, .val (.long fb), .second, .val (.long gb), .second, .val (.long tb), .second, .val (.ref b13), .val (.ref b21), .unset, .unset, .unset] [(.int (XT.cmpL ta tb))])) t → Steps p.tables e below (s₁.setTop (entryFrame m #[(.long p1), (.long p2), (.long p3), (.long p4), (.long p5), (.int p6)] maxLocals)) t := fun t k => pre30 t (by
          show Steps p.tables e below (Tc.setTop (mkF m 112 #[.val (.long p1), .second, .val (.long p2), .second, .val (.long p3), .second, .val (.long p4), .second, .val (.long p5), .second, .val (.int p6), .val (.long (4294967295 : Int64)), .second, .val (.long fa), .second, .val (.long ta), .second, .val (.long fb), .second, .val (.long gb), .second, .val (.long tb), .second, .val (.ref b13), .val (.ref b21), .unset, .unset, .unset] [(.int (XT.cmpL p2 gb))])) _
          refine XS.ifNo Xc.here hx rfl (hb hby at_112) rfl (XT.ll_ne_f hc1) ?_
          show Steps p.tables e below (Tc.setTop (mkF m 115 #[.val (.long p1), .second, .val (.long p2), .second, .val (.long p3), .second, .val (.long p4), .second, .val (.long p5), .second, .val (.int p6), .val (.long (4294967295 : Int64)), .second, .val (.long fa), .second, .val (.long ta), .second, .val (.long fb), .second, .val (.long gb), .second, .val (.long tb), .second, .val (.ref b13), .val (.ref b21), .unset, .unset, .unset] [])) _
          refine XT.lload Xc.here hx rfl (hb hby at_115) rfl ?_
          show Steps p.tables e below (Tc.setTop (mkF m 117 #[.val (.long p1), .second, .val (.long p2), .second, .val (.long p3), .second, .val (.long p4), .second, .val (.long p5), .second, .val (.int p6), .val (.long (4294967295 : Int64)), .second, .val (.long fa), .second, .val (.long ta), .second, .val (.long fb), .second, .val (.long gb), .second, .val (.long tb), .second, .val (.ref b13), .val (.ref b21), .unset, .unset, .unset] [(.long ta)])) _
          refine XT.lload Xc.here hx rfl (hb hby at_117) rfl ?_
          show Steps p.tables e below (Tc.setTop (mkF m 119 #[.val (.long p1), .second, .val (.long p2), .second, .val (.long p3), .second, .val (.long p4), .second, .val (.long p5), .second, .val (.int p6), .val (.long (4294967295 : Int64)), .second, .val (.long fa), .second, .val (.long ta), .second, .val (.long fb), .second, .val (.long gb), .second, .val (.long tb), .second, .val (.ref b13), .val (.ref b21), .unset, .unset, .unset] [(.long tb), (.long ta)])) _
          refine XT.lcmp Xc.here hx rfl (hb hby at_119) rfl ?_
          show Steps p.tables e below (Tc.setTop (mkF m 120 #[.val (.long p1), .second, .val (.long p2), .second, .val (.long p3), .second, .val (.long p4), .second, .val (.long p5), .second, .val (.int p6), .val (.long (4294967295 : Int64)), .second, .val (.long fa), .second, .val (.long ta), .second, .val (.long fb), .second, .val (.long gb), .second, .val (.long tb), .second, .val (.ref b13), .val (.ref b21), .unset, .unset, .unset] [(.int (XT.cmpL ta tb))])) _
          exact k)
        by_cases hc2 : ta = tb
        · skip
          have pre32 : ∀ t, Steps p.tables e below (Tc.setTop (mkF m 128 #[.val (.long p1), .second, .val (.long p2), .second, .val (.long p3), .second, .val (.long p4), .second, .val (.long p5), .second, .val (.int p6), .val (.long (4294967295 : Int64)), .second, .val (.long fa), .second, .val (.long ta), .second, .val (.long fb), .second, .val (.long gb), .second, .val (.long tb), .second, .val (.ref b13), .val (.ref b21), .unset, .unset, .unset] [(.int (1 : Int32))])) t → Steps p.tables e below (s₁.setTop (entryFrame m #[(.long p1), (.long p2), (.long p3), (.long p4), (.long p5), (.int p6)] maxLocals)) t := fun t k => pre31 t (by
            show Steps p.tables e below (Tc.setTop (mkF m 120 #[.val (.long p1), .second, .val (.long p2), .second, .val (.long p3), .second, .val (.long p4), .second, .val (.long p5), .second, .val (.int p6), .val (.long (4294967295 : Int64)), .second, .val (.long fa), .second, .val (.long ta), .second, .val (.long fb), .second, .val (.long gb), .second, .val (.long tb), .second, .val (.ref b13), .val (.ref b21), .unset, .unset, .unset] [(.int (XT.cmpL ta tb))])) _
            refine XS.ifNo Xc.here hx rfl (hb hby at_120) rfl (XT.ll_ne_f hc2) ?_
            show Steps p.tables e below (Tc.setTop (mkF m 123 #[.val (.long p1), .second, .val (.long p2), .second, .val (.long p3), .second, .val (.long p4), .second, .val (.long p5), .second, .val (.int p6), .val (.long (4294967295 : Int64)), .second, .val (.long fa), .second, .val (.long ta), .second, .val (.long fb), .second, .val (.long gb), .second, .val (.long tb), .second, .val (.ref b13), .val (.ref b21), .unset, .unset, .unset] [])) _
            refine XS.iconst Xc.here hx rfl (hb hby at_123) ?_
            show Steps p.tables e below (Tc.setTop (mkF m 124 #[.val (.long p1), .second, .val (.long p2), .second, .val (.long p3), .second, .val (.long p4), .second, .val (.long p5), .second, .val (.int p6), .val (.long (4294967295 : Int64)), .second, .val (.long fa), .second, .val (.long ta), .second, .val (.long fb), .second, .val (.long gb), .second, .val (.long tb), .second, .val (.ref b13), .val (.ref b21), .unset, .unset, .unset] [(.int (1 : Int32))])) _
            refine XS.goto Xc.here hx rfl (pc0 := 124) (pc' := 128) rfl (hb hby at_124) (by decide) (by decide) ?_
            show Steps p.tables e below (Tc.setTop (mkF m 128 #[.val (.long p1), .second, .val (.long p2), .second, .val (.long p3), .second, .val (.long p4), .second, .val (.long p5), .second, .val (.int p6), .val (.long (4294967295 : Int64)), .second, .val (.long fa), .second, .val (.long ta), .second, .val (.long fb), .second, .val (.long gb), .second, .val (.long tb), .second, .val (.ref b13), .val (.ref b21), .unset, .unset, .unset] [(.int (1 : Int32))])) _
            exact k)
          exact ⟨(1 : Int32), by simp [own_eq, hc0, hc1, hc2], pre32⟩
        · skip
          have pre32 : ∀ t, Steps p.tables e below (Tc.setTop (mkF m 128 #[.val (.long p1), .second, .val (.long p2), .second, .val (.long p3), .second, .val (.long p4), .second, .val (.long p5), .second, .val (.int p6), .val (.long (4294967295 : Int64)), .second, .val (.long fa), .second, .val (.long ta), .second, .val (.long fb), .second, .val (.long gb), .second, .val (.long tb), .second, .val (.ref b13), .val (.ref b21), .unset, .unset, .unset] [(.int (0 : Int32))])) t → Steps p.tables e below (s₁.setTop (entryFrame m #[(.long p1), (.long p2), (.long p3), (.long p4), (.long p5), (.int p6)] maxLocals)) t := fun t k => pre31 t (by
            show Steps p.tables e below (Tc.setTop (mkF m 120 #[.val (.long p1), .second, .val (.long p2), .second, .val (.long p3), .second, .val (.long p4), .second, .val (.long p5), .second, .val (.int p6), .val (.long (4294967295 : Int64)), .second, .val (.long fa), .second, .val (.long ta), .second, .val (.long fb), .second, .val (.long gb), .second, .val (.long tb), .second, .val (.ref b13), .val (.ref b21), .unset, .unset, .unset] [(.int (XT.cmpL ta tb))])) _
            refine XS.ifYes Xc.here hx rfl (pc0 := 120) (pc' := 127) rfl (hb hby at_120) rfl (XT.ll_ne_t hc2) (by decide) (by decide) ?_
            show Steps p.tables e below (Tc.setTop (mkF m 127 #[.val (.long p1), .second, .val (.long p2), .second, .val (.long p3), .second, .val (.long p4), .second, .val (.long p5), .second, .val (.int p6), .val (.long (4294967295 : Int64)), .second, .val (.long fa), .second, .val (.long ta), .second, .val (.long fb), .second, .val (.long gb), .second, .val (.long tb), .second, .val (.ref b13), .val (.ref b21), .unset, .unset, .unset] [])) _
            refine XS.iconst Xc.here hx rfl (hb hby at_127) ?_
            show Steps p.tables e below (Tc.setTop (mkF m 128 #[.val (.long p1), .second, .val (.long p2), .second, .val (.long p3), .second, .val (.long p4), .second, .val (.long p5), .second, .val (.int p6), .val (.long (4294967295 : Int64)), .second, .val (.long fa), .second, .val (.long ta), .second, .val (.long fb), .second, .val (.long gb), .second, .val (.long tb), .second, .val (.ref b13), .val (.ref b21), .unset, .unset, .unset] [(.int (0 : Int32))])) _
            exact k)
          exact ⟨(0 : Int32), by simp [own_eq, hc0, hc1, hc2], pre32⟩
      · skip
        have pre31 : ∀ t, Steps p.tables e below (Tc.setTop (mkF m 128 #[.val (.long p1), .second, .val (.long p2), .second, .val (.long p3), .second, .val (.long p4), .second, .val (.long p5), .second, .val (.int p6), .val (.long (4294967295 : Int64)), .second, .val (.long fa), .second, .val (.long ta), .second, .val (.long fb), .second, .val (.long gb), .second, .val (.long tb), .second, .val (.ref b13), .val (.ref b21), .unset, .unset, .unset] [(.int (0 : Int32))])) t → Steps p.tables e below (s₁.setTop (entryFrame m #[(.long p1), (.long p2), (.long p3), (.long p4), (.long p5), (.int p6)] maxLocals)) t := fun t k => pre30 t (by
          show Steps p.tables e below (Tc.setTop (mkF m 112 #[.val (.long p1), .second, .val (.long p2), .second, .val (.long p3), .second, .val (.long p4), .second, .val (.long p5), .second, .val (.int p6), .val (.long (4294967295 : Int64)), .second, .val (.long fa), .second, .val (.long ta), .second, .val (.long fb), .second, .val (.long gb), .second, .val (.long tb), .second, .val (.ref b13), .val (.ref b21), .unset, .unset, .unset] [(.int (XT.cmpL p2 gb))])) _
          refine XS.ifYes Xc.here hx rfl (pc0 := 112) (pc' := 127) rfl (hb hby at_112) rfl (XT.ll_ne_t hc1) (by decide) (by decide) ?_
          show Steps p.tables e below (Tc.setTop (mkF m 127 #[.val (.long p1), .second, .val (.long p2), .second, .val (.long p3), .second, .val (.long p4), .second, .val (.long p5), .second, .val (.int p6), .val (.long (4294967295 : Int64)), .second, .val (.long fa), .second, .val (.long ta), .second, .val (.long fb), .second, .val (.long gb), .second, .val (.long tb), .second, .val (.ref b13), .val (.ref b21), .unset, .unset, .unset] [])) _
          refine XS.iconst Xc.here hx rfl (hb hby at_127) ?_
          show Steps p.tables e below (Tc.setTop (mkF m 128 #[.val (.long p1), .second, .val (.long p2), .second, .val (.long p3), .second, .val (.long p4), .second, .val (.long p5), .second, .val (.int p6), .val (.long (4294967295 : Int64)), .second, .val (.long fa), .second, .val (.long ta), .second, .val (.long fb), .second, .val (.long gb), .second, .val (.long tb), .second, .val (.ref b13), .val (.ref b21), .unset, .unset, .unset] [(.int (0 : Int32))])) _
          exact k)
        exact ⟨(0 : Int32), by simp [own_eq, hc0, hc1], pre31⟩
    · skip
      have pre30 : ∀ t, Steps p.tables e below (Tc.setTop (mkF m 128 #[.val (.long p1), .second, .val (.long p2), .second, .val (.long p3), .second, .val (.long p4), .second, .val (.long p5), .second, .val (.int p6), .val (.long (4294967295 : Int64)), .second, .val (.long fa), .second, .val (.long ta), .second, .val (.long fb), .second, .val (.long gb), .second, .val (.long tb), .second, .val (.ref b13), .val (.ref b21), .unset, .unset, .unset] [(.int (0 : Int32))])) t → Steps p.tables e below (s₁.setTop (entryFrame m #[(.long p1), (.long p2), (.long p3), (.long p4), (.long p5), (.int p6)] maxLocals)) t := fun t k => pre29 t (by
        show Steps p.tables e below (Tc.setTop (mkF m 105 #[.val (.long p1), .second, .val (.long p2), .second, .val (.long p3), .second, .val (.long p4), .second, .val (.long p5), .second, .val (.int p6), .val (.long (4294967295 : Int64)), .second, .val (.long fa), .second, .val (.long ta), .second, .val (.long fb), .second, .val (.long gb), .second, .val (.long tb), .second, .val (.ref b13), .val (.ref b21), .unset, .unset, .unset] [(.int (XT.cmpL fa fb))])) _
        refine XS.ifYes Xc.here hx rfl (pc0 := 105) (pc' := 127) rfl (hb hby at_105) rfl (XT.ll_ne_t hc0) (by decide) (by decide) ?_
        show Steps p.tables e below (Tc.setTop (mkF m 127 #[.val (.long p1), .second, .val (.long p2), .second, .val (.long p3), .second, .val (.long p4), .second, .val (.long p5), .second, .val (.int p6), .val (.long (4294967295 : Int64)), .second, .val (.long fa), .second, .val (.long ta), .second, .val (.long fb), .second, .val (.long gb), .second, .val (.long tb), .second, .val (.ref b13), .val (.ref b21), .unset, .unset, .unset] [])) _
        refine XS.iconst Xc.here hx rfl (hb hby at_127) ?_
        show Steps p.tables e below (Tc.setTop (mkF m 128 #[.val (.long p1), .second, .val (.long p2), .second, .val (.long p3), .second, .val (.long p4), .second, .val (.long p5), .second, .val (.int p6), .val (.long (4294967295 : Int64)), .second, .val (.long fa), .second, .val (.long ta), .second, .val (.long fb), .second, .val (.long gb), .second, .val (.long tb), .second, .val (.ref b13), .val (.ref b21), .unset, .unset, .unset] [(.int (0 : Int32))])) _
        exact k)
      exact ⟨(0 : Int32), by simp [own_eq, hc0], pre30⟩
  have pre73 : ∀ t, Steps p.tables e below (Tc.setTop (mkF m 135 #[.val (.long p1), .second, .val (.long p2), .second, .val (.long p3), .second, .val (.long p4), .second, .val (.long p5), .second, .val (.int p6), .val (.long (4294967295 : Int64)), .second, .val (.long fa), .second, .val (.long ta), .second, .val (.long fb), .second, .val (.long gb), .second, .val (.long tb), .second, .val (.ref b13), .val (.ref b21), .val (.int ex), .val .null, .unset] [(.long fa)])) t → Steps p.tables e below (s₁.setTop (entryFrame m #[(.long p1), (.long p2), (.long p3), (.long p4), (.long p5), (.int p6)] maxLocals)) t := fun t k => pre_ex t (by
    show Steps p.tables e below (Tc.setTop (mkF m 128 #[.val (.long p1), .second, .val (.long p2), .second, .val (.long p3), .second, .val (.long p4), .second, .val (.long p5), .second, .val (.int p6), .val (.long (4294967295 : Int64)), .second, .val (.long fa), .second, .val (.long ta), .second, .val (.long fb), .second, .val (.long gb), .second, .val (.long tb), .second, .val (.ref b13), .val (.ref b21), .unset, .unset, .unset] [(.int ex)])) _
    refine XS.istore Xc.here hx rfl (hb hby at_128) rfl (l' := #[.val (.long p1), .second, .val (.long p2), .second, .val (.long p3), .second, .val (.long p4), .second, .val (.long p5), .second, .val (.int p6), .val (.long (4294967295 : Int64)), .second, .val (.long fa), .second, .val (.long ta), .second, .val (.long fb), .second, .val (.long gb), .second, .val (.long tb), .second, .val (.ref b13), .val (.ref b21), .val (.int ex), .unset, .unset]) rfl ?_
    show Steps p.tables e below (Tc.setTop (mkF m 130 #[.val (.long p1), .second, .val (.long p2), .second, .val (.long p3), .second, .val (.long p4), .second, .val (.long p5), .second, .val (.int p6), .val (.long (4294967295 : Int64)), .second, .val (.long fa), .second, .val (.long ta), .second, .val (.long fb), .second, .val (.long gb), .second, .val (.long tb), .second, .val (.ref b13), .val (.ref b21), .val (.int ex), .unset, .unset] [])) _
    refine XS.aconstNull Xc.here hx rfl (hb hby at_130) ?_
    show Steps p.tables e below (Tc.setTop (mkF m 131 #[.val (.long p1), .second, .val (.long p2), .second, .val (.long p3), .second, .val (.long p4), .second, .val (.long p5), .second, .val (.int p6), .val (.long (4294967295 : Int64)), .second, .val (.long fa), .second, .val (.long ta), .second, .val (.long fb), .second, .val (.long gb), .second, .val (.long tb), .second, .val (.ref b13), .val (.ref b21), .val (.int ex), .unset, .unset] [.null])) _
    refine XS.astore Xc.here hx rfl (hb hby at_131) rfl rfl (l' := #[.val (.long p1), .second, .val (.long p2), .second, .val (.long p3), .second, .val (.long p4), .second, .val (.long p5), .second, .val (.int p6), .val (.long (4294967295 : Int64)), .second, .val (.long fa), .second, .val (.long ta), .second, .val (.long fb), .second, .val (.long gb), .second, .val (.long tb), .second, .val (.ref b13), .val (.ref b21), .val (.int ex), .val .null, .unset]) rfl ?_
    show Steps p.tables e below (Tc.setTop (mkF m 133 #[.val (.long p1), .second, .val (.long p2), .second, .val (.long p3), .second, .val (.long p4), .second, .val (.long p5), .second, .val (.int p6), .val (.long (4294967295 : Int64)), .second, .val (.long fa), .second, .val (.long ta), .second, .val (.long fb), .second, .val (.long gb), .second, .val (.long tb), .second, .val (.ref b13), .val (.ref b21), .val (.int ex), .val .null, .unset] [])) _
    refine XT.lload Xc.here hx rfl (hb hby at_133) rfl ?_
    show Steps p.tables e below (Tc.setTop (mkF m 135 #[.val (.long p1), .second, .val (.long p2), .second, .val (.long p3), .second, .val (.long p4), .second, .val (.long p5), .second, .val (.int p6), .val (.long (4294967295 : Int64)), .second, .val (.long fa), .second, .val (.long ta), .second, .val (.long fb), .second, .val (.long gb), .second, .val (.long tb), .second, .val (.ref b13), .val (.ref b21), .val (.int ex), .val .null, .unset] [(.long fa)])) _
    exact k)
  obtain ⟨_, _, ⟨T74, L74, kk74, nn74⟩, -, X74, ⟨Lc74, hQ74, l74, y74, z74⟩, st74⟩ := Jvm.LawKit.callS Xc hx (y := (⟨"java/lang/Long", "valueOf", "(J)Ljava/lang/Long;"⟩ : MethodName)) hown (mvT hZ (hw _ (List.mem_of_getElem? (i := 34) rfl))) (mvT hZ (hw _ (List.mem_of_getElem? (i := 35) rfl))) (mvT hZ (hw _ (List.mem_of_getElem? (i := 36) rfl))) (mvT hZ (hw _ (List.mem_of_getElem? (i := 37) rfl))) (by decide) (backOf (W := 0) (rm_lvo l Z a0 hw [] fa ar cA hhc n0 Zc (own_sta_keep HS Kk (fun x hx => by cases hx)) ⟨Kk.2.1 _ _ HA.1 (by simp), HA.2⟩ HZ (fun i hi => (HC i hi).imp fun b q => ⟨q.1, q.2.keep Kk⟩)) hZ (hw _ (List.mem_of_getElem? (i := 37) rfl)) (hw _ (List.mem_of_getElem? (i := 36) rfl)) (by decide) (by decide)) (g := (mkF m 135 #[.val (.long p1), .second, .val (.long p2), .second, .val (.long p3), .second, .val (.long p4), .second, .val (.long p5), .second, .val (.int p6), .val (.long (4294967295 : Int64)), .second, .val (.long fa), .second, .val (.long ta), .second, .val (.long fb), .second, .val (.long gb), .second, .val (.long tb), .second, .val (.ref b13), .val (.ref b21), .val (.int ex), .val .null, .unset] [(.long fa)])) rfl (by rw [hml]; rfl) (argsL := [(.long fa)]) (rest := []) (lenOf pd__J_Ljava_lang_Long_ rfl) rfl (by show 2 * 0 + _ ≤ _; exact Nat.le_of_eq rfl) (hb hby at_135) (fun _ _ => ⟨rfl, ec, (by decide : 10 + 1 ≤ _), (by decide : 302 + 1 ≤ _)⟩)
  dsimp only [Pt.U, Pt.locs, Pt.cells, Pt.slots] at X74 l74 y74 z74 st74 hQ74
  subst l74 y74 z74
  obtain ⟨bx, rfl, N74q, Kc74, Eb74⟩ := hQ74
  have N74 := Fr.app Nc N74q
  have f75_0 := fc3_0.keep Kc74
  have f75_1 := fc3_1.keep Kc74 (by simp)
  have f75_2 := fc3_2.keep Kc74 (by simp)
  have f75_3 := fc3_3.keep Kc74 (by simp)
  have f75_4 := fc3_4.keep Kc74
  have f75_5 := fc3_5.keep Kc74 (by simp)
  have f75_6 := fc3_6.keep Kc74 (by simp)
  have f75_7 := fc3_7.keep Kc74 (by simp)
  have K76 := Kk.trans Kc74 (fun x hx => by cases hx)
  have Z74 : n0 ≤ T74.heap.size := Nat.le_trans Zc Kc74.1
  have kp74 : kwc ≤ T74.heap.size := Nat.le_trans kpc Kc74.1
  have e74 : T74.heap = T74.heap := rfl
  have pre77 : ∀ t, Steps p.tables e below (T74.setTop (mkF m 140 #[.val (.long p1), .second, .val (.long p2), .second, .val (.long p3), .second, .val (.long p4), .second, .val (.long p5), .second, .val (.int p6), .val (.long (4294967295 : Int64)), .second, .val (.long fa), .second, .val (.long ta), .second, .val (.long fb), .second, .val (.long gb), .second, .val (.long tb), .second, .val (.ref b13), .val (.ref b21), .val (.int ex), .val .null, .val (.ref bx)] [])) t → Steps p.tables e below (s₁.setTop (entryFrame m #[(.long p1), (.long p2), (.long p3), (.long p4), (.long p5), (.int p6)] maxLocals)) t := fun t k => pre73 t (by
    show Steps p.tables e below (Tc.setTop (mkF m 135 #[.val (.long p1), .second, .val (.long p2), .second, .val (.long p3), .second, .val (.long p4), .second, .val (.long p5), .second, .val (.int p6), .val (.long (4294967295 : Int64)), .second, .val (.long fa), .second, .val (.long ta), .second, .val (.long fb), .second, .val (.long gb), .second, .val (.long tb), .second, .val (.ref b13), .val (.ref b21), .val (.int ex), .val .null, .unset] [(.long fa)])) _
    refine st74 _ ?_
    show Steps p.tables e below (T74.setTop (mkF m 138 #[.val (.long p1), .second, .val (.long p2), .second, .val (.long p3), .second, .val (.long p4), .second, .val (.long p5), .second, .val (.int p6), .val (.long (4294967295 : Int64)), .second, .val (.long fa), .second, .val (.long ta), .second, .val (.long fb), .second, .val (.long gb), .second, .val (.long tb), .second, .val (.ref b13), .val (.ref b21), .val (.int ex), .val .null, .unset] [(.ref bx)])) _
    refine XS.astore X74.here hx rfl (hb hby at_138) rfl rfl (l' := #[.val (.long p1), .second, .val (.long p2), .second, .val (.long p3), .second, .val (.long p4), .second, .val (.long p5), .second, .val (.int p6), .val (.long (4294967295 : Int64)), .second, .val (.long fa), .second, .val (.long ta), .second, .val (.long fb), .second, .val (.long gb), .second, .val (.long tb), .second, .val (.ref b13), .val (.ref b21), .val (.int ex), .val .null, .val (.ref bx)]) rfl ?_
    show Steps p.tables e below (T74.setTop (mkF m 140 #[.val (.long p1), .second, .val (.long p2), .second, .val (.long p3), .second, .val (.long p4), .second, .val (.long p5), .second, .val (.int p6), .val (.long (4294967295 : Int64)), .second, .val (.long fa), .second, .val (.long ta), .second, .val (.long fb), .second, .val (.long gb), .second, .val (.long tb), .second, .val (.ref b13), .val (.ref b21), .val (.int ex), .val .null, .val (.ref bx)] [])) _
    exact k)
  exact rs_0_4 l Z a0 hw ws p1 p2 p3 p4 p5 p6 ar cA h0 n0 fa ta fb gb tb ex b13 b21 bx Bd hZ hown hml T74.heap X74 e74 N74 Z74 Sc kp74 pre77 f75_0 f75_1 f75_2 f75_3 f75_4 f75_5 f75_6 f75_7 Eb74 ne_b13_b21 g_b13 sz_b13 g_b21 sz_b21 K76 h_ex
set_option maxRecDepth 65536 in
set_option maxHeartbeats 40000000 in
theorem rs_0_2 (l : Launch) (Z : State) (a0 : Array Value) (hw : ∀ d ∈ tables_1, d.before a0 Z = true) (ws : List Jvm.Cond) (p1 p2 p3 p4 p5 : Int64) (p6 : Int32) (ar : Addr) (cA : Cell) (h0 : Heap) (n0 : Nat) (fa : Int64) (ta : Int64) (fb : Int64) (gb : Int64) (tb : Int64) (b13 : Addr) {p e s m below meth c s₁} (Bd : BodyLoose p l x (head1 (Jvm.Cond.code x code maxLocals ret :: ws) room_1) code maxLocals ret e s m #[(.long p1), (.long p2), (.long p3), (.long p4), (.long p5), (.int p6)] below meth c s₁) {vmc} (hZ : Z.Warmed39 (s.setVm vmc).vm) (hown : (s.setVm vmc).vm.findClass "com/example/terse_broker/tersebroker/codec/HandshakeEqualsPinLaw" = some m.cls) (hml : c.maxLocals = 28) {Tc Lc0} (hhc : Heap) (Xc : Stand p l e room_1 (s.setVm vmc) m #[(.long p1), (.long p2), (.long p3), (.long p4), (.long p5), (.int p6)] below meth c Tc Lc0 5 151) (ec : Tc.heap = hhc) (Nc : Fr n0 Lc0) (Zc : n0 ≤ hhc.size) {kwc : Nat} (Sc : s.Since vmc kwc) (kpc : kwc ≤ hhc.size) (prec : ∀ t, Steps p.tables e below (Tc.setTop (mkF m 85 #[.val (.long p1), .second, .val (.long p2), .second, .val (.long p3), .second, .val (.long p4), .second, .val (.long p5), .second, .val (.int p6), .val (.long (4294967295 : Int64)), .second, .val (.long fa), .second, .val (.long ta), .second, .val (.long fb), .second, .val (.long gb), .second, .val (.long tb), .second, .val (.ref b13), .unset, .unset, .unset, .unset] [])) t → Steps p.tables e below (s₁.setTop (entryFrame m #[(.long p1), (.long p2), (.long p3), (.long p4), (.long p5), (.int p6)] maxLocals)) t) (fc2_0 : Exa Z hhc b13 "com/example/terse_broker/tersebroker/codec/Handshake") (fc2_1 : Fld Z hhc b13 "com/example/terse_broker/tersebroker/codec/Handshake" "maxFragmentSize" "J" (.long fa)) (fc2_2 : Fld Z hhc b13 "com/example/terse_broker/tersebroker/codec/Handshake" "maxAggregateSize" "J" (.long p2)) (fc2_3 : Fld Z hhc b13 "com/example/terse_broker/tersebroker/codec/Handshake" "ackTimeoutMillis" "J" (.long ta)) (g_b13 : n0 ≤ b13) (sz_b13 : h0.size ≤ b13) (Kk : Keep h0 hhc []) (h_fb : ¬ fb < (0 : Int64) ∧ ¬ (4294967295 : Int64) < fb) (h_tb : ¬ tb < (0 : Int64) ∧ ¬ (4294967295 : Int64) < tb) (b_fa : ¬ fa < (0 : Int64) ∧ ¬ (4294967295 : Int64) < fa) (HS : Sta Z h0 "java/lang/Long$LongCache" "cache" "[Ljava/lang/Long;" (.ref ar)) (HA : Arr Z h0 ar cA (.object "java/lang/Long")) (HZ : 256 ≤ cA.slots.size) (HC : ∀ i, i < 256 → ∃ b, cA.slots[i]? = some (.ref b) ∧ Exa Z h0 b "java/lang/Long") :
    ∃ s₂ o, Steps p.tables e below (s₁.setTop (entryFrame m #[(.long p1), (.long p2), (.long p3), (.long p4), (.long p5), (.int p6)] maxLocals)) s₂ ∧ s₂.status = .running ∧ Ended s₂ below o ∧ ∃ v L, o = .returned v ∧ Q_0 Z p1 p2 p3 p4 p5 p6 ar cA h0 n0 v s₂.heap L ∧ ReturnedEndW s o s₂ L room_1.cells room_1.slots := by
  have hx := Bd.exec
  have hby := Bd.bytes
  have hnm := (name_of_methodNamed Bd.named Bd.method).1
  obtain ⟨T21, h21, X21, e21, E21, A21, D21, -, st21⟩ := newO Xc hx hZ hown (hw _ (List.mem_of_getElem? (i := 1) rfl)) (hw _ (List.mem_of_getElem? (i := 2) rfl)) (hw _ (List.mem_of_getElem? (i := 3) rfl)) ec (g := (mkF m 85 #[.val (.long p1), .second, .val (.long p2), .second, .val (.long p3), .second, .val (.long p4), .second, .val (.long p5), .second, .val (.int p6), .val (.long (4294967295 : Int64)), .second, .val (.long fa), .second, .val (.long ta), .second, .val (.long fb), .second, .val (.long gb), .second, .val (.long tb), .second, .val (.ref b13), .unset, .unset, .unset, .unset] [])) rfl (hb hby at_85) (by decide) (by decide)
  obtain ⟨b21, g21⟩ : ∃ z, z = hhc.size := ⟨_, rfl⟩
  rw [← g21] at A21 D21 st21
  have ne_b13_b21 : b13 ≠ b21 := Nat.ne_of_lt (Nat.lt_of_lt_of_eq fc2_0.lt g21.symm)
  have g_b21 : n0 ≤ b21 := Nat.le_trans Zc (Nat.le_of_eq g21.symm)
  have sz_b21 : h0.size ≤ b21 := Nat.le_trans Kk.1 (Nat.le_of_eq g21.symm)
  have Z21 : n0 ≤ h21.size := Nat.le_trans Zc E21.1
  have kp21 : kwc ≤ h21.size := Nat.le_trans kpc E21.1
  have f22_0 := fc2_0.ext E21
  have f22_1 := fc2_1.ext E21
  have f22_2 := fc2_2.ext E21
  have f22_3 := fc2_3.ext E21
  have K23 := Kk.ext E21
  have F21_maxFragmentSize : Fld Z h21 b21 "com/example/terse_broker/tersebroker/codec/Handshake" "maxFragmentSize" "J" (.long (0 : Int64)) := D21 (Or.inr (hw _ (List.mem_of_getElem? (i := 29) rfl))) (ty := .long) (by decide)
  have F21_maxAggregateSize : Fld Z h21 b21 "com/example/terse_broker/tersebroker/codec/Handshake" "maxAggregateSize" "J" (.long (0 : Int64)) := D21 (Or.inr (hw _ (List.mem_of_getElem? (i := 31) rfl))) (ty := .long) (by decide)
  have F21_ackTimeoutMillis : Fld Z h21 b21 "com/example/terse_broker/tersebroker/codec/Handshake" "ackTimeoutMillis" "J" (.long (0 : Int64)) := D21 (Or.inr (hw _ (List.mem_of_getElem? (i := 33) rfl))) (ty := .long) (by decide)
  have pre24 : ∀ t, Steps p.tables e below (T21.setTop (mkF m 95 #[.val (.long p1), .second, .val (.long p2), .second, .val (.long p3), .second, .val (.long p4), .second, .val (.long p5), .second, .val (.int p6), .val (.long (4294967295 : Int64)), .second, .val (.long fa), .second, .val (.long ta), .second, .val (.long fb), .second, .val (.long gb), .second, .val (.long tb), .second, .val (.ref b13), .unset, .unset, .unset, .unset] [(.long tb), (.long gb), (.long fb), (.ref b21), (.ref b21)])) t → Steps p.tables e below (s₁.setTop (entryFrame m #[(.long p1), (.long p2), (.long p3), (.long p4), (.long p5), (.int p6)] maxLocals)) t := fun t k => prec t (by
    show Steps p.tables e below (Tc.setTop (mkF m 85 #[.val (.long p1), .second, .val (.long p2), .second, .val (.long p3), .second, .val (.long p4), .second, .val (.long p5), .second, .val (.int p6), .val (.long (4294967295 : Int64)), .second, .val (.long fa), .second, .val (.long ta), .second, .val (.long fb), .second, .val (.long gb), .second, .val (.long tb), .second, .val (.ref b13), .unset, .unset, .unset, .unset] [])) _
    refine st21 _ ?_
    show Steps p.tables e below (T21.setTop (mkF m 88 #[.val (.long p1), .second, .val (.long p2), .second, .val (.long p3), .second, .val (.long p4), .second, .val (.long p5), .second, .val (.int p6), .val (.long (4294967295 : Int64)), .second, .val (.long fa), .second, .val (.long ta), .second, .val (.long fb), .second, .val (.long gb), .second, .val (.long tb), .second, .val (.ref b13), .unset, .unset, .unset, .unset] [(.ref b21)])) _
    refine XS.dup X21.here hx rfl (hb hby at_88) rfl rfl ?_
    show Steps p.tables e below (T21.setTop (mkF m 89 #[.val (.long p1), .second, .val (.long p2), .second, .val (.long p3), .second, .val (.long p4), .second, .val (.long p5), .second, .val (.int p6), .val (.long (4294967295 : Int64)), .second, .val (.long fa), .second, .val (.long ta), .second, .val (.long fb), .second, .val (.long gb), .second, .val (.long tb), .second, .val (.ref b13), .unset, .unset, .unset, .unset] [(.ref b21), (.ref b21)])) _
    refine XT.lload X21.here hx rfl (hb hby at_89) rfl ?_
    show Steps p.tables e below (T21.setTop (mkF m 91 #[.val (.long p1), .second, .val (.long p2), .second, .val (.long p3), .second, .val (.long p4), .second, .val (.long p5), .second, .val (.int p6), .val (.long (4294967295 : Int64)), .second, .val (.long fa), .second, .val (.long ta), .second, .val (.long fb), .second, .val (.long gb), .second, .val (.long tb), .second, .val (.ref b13), .unset, .unset, .unset, .unset] [(.long fb), (.ref b21), (.ref b21)])) _
    refine XT.lload X21.here hx rfl (hb hby at_91) rfl ?_
    show Steps p.tables e below (T21.setTop (mkF m 93 #[.val (.long p1), .second, .val (.long p2), .second, .val (.long p3), .second, .val (.long p4), .second, .val (.long p5), .second, .val (.int p6), .val (.long (4294967295 : Int64)), .second, .val (.long fa), .second, .val (.long ta), .second, .val (.long fb), .second, .val (.long gb), .second, .val (.long tb), .second, .val (.ref b13), .unset, .unset, .unset, .unset] [(.long gb), (.long fb), (.ref b21), (.ref b21)])) _
    refine XT.lload X21.here hx rfl (hb hby at_93) rfl ?_
    show Steps p.tables e below (T21.setTop (mkF m 95 #[.val (.long p1), .second, .val (.long p2), .second, .val (.long p3), .second, .val (.long p4), .second, .val (.long p5), .second, .val (.int p6), .val (.long (4294967295 : Int64)), .second, .val (.long fa), .second, .val (.long ta), .second, .val (.long fb), .second, .val (.long gb), .second, .val (.long tb), .second, .val (.ref b13), .unset, .unset, .unset, .unset] [(.long tb), (.long gb), (.long fb), (.ref b21), (.ref b21)])) _
    exact k)
  obtain ⟨_, _, ⟨T25, L25, kk25, nn25⟩, -, Y25, Sx25, gr25, ⟨Lc25, hQ25, l25, y25, z25⟩, st25⟩ := X21.specialBackS hx (y := (⟨"com/example/terse_broker/tersebroker/codec/Handshake", "<init>", "(JJJ)V"⟩ : MethodName)) rfl hown (mvT hZ (hw _ (List.mem_of_getElem? (i := 4) rfl))) (mvT hZ (hw _ (List.mem_of_getElem? (i := 5) rfl))) (mvT hZ (hw _ (List.mem_of_getElem? (i := 6) rfl))) (by decide) (backOfS (W := 1) (rm_ini l Z a0 hw [] b21 fb gb tb _ _ _ h21 n0 Z21 A21 F21_maxFragmentSize F21_maxAggregateSize F21_ackTimeoutMillis g_b21 h_fb h_tb) hZ (hw _ (List.mem_of_getElem? (i := 6) rfl)) (hw _ (List.mem_of_getElem? (i := 3) rfl)) (by decide) (by decide)) (g := (mkF m 95 #[.val (.long p1), .second, .val (.long p2), .second, .val (.long p3), .second, .val (.long p4), .second, .val (.long p5), .second, .val (.int p6), .val (.long (4294967295 : Int64)), .second, .val (.long fa), .second, .val (.long ta), .second, .val (.long fb), .second, .val (.long gb), .second, .val (.long tb), .second, .val (.ref b13), .unset, .unset, .unset, .unset] [(.long tb), (.long gb), (.long fb), (.ref b21), (.ref b21)])) rfl (by rw [hml]; rfl) (Steps.refl _) (a := b21) (argsL := [(.long fb), (.long gb), (.long tb)]) (rest := [(.ref b21)]) (lenOf pd__JJJ_V rfl) rfl (by show 2 * 0 + _ ≤ _; exact Nat.le_of_eq rfl) (hb hby at_95) (fun _ _ => ⟨rfl, e21, (by decide : 6 + 4 ≤ _), (by decide : 154 + 148 ≤ _)⟩)
  dsimp only [Pt.U, Pt.locs, Pt.cells, Pt.slots] at Y25 Sx25 gr25 l25 y25 z25 st25 hQ25
  subst l25 y25 z25
  obtain ⟨X25, S25, hZ, hown⟩ := rebS Sc (Nat.le_trans kp21 (Nat.le_of_eq (congrArg Array.size e21.symm))) Y25 Sx25 gr25 hZ hown
  obtain ⟨rfl, N25q, Kc25, Fa25, Fb25, Fd25⟩ := hQ25
  have N25 := Fr.app Nc N25q
  have f26_0 := f22_0.keep Kc25
  have f26_1 := f22_1.keep Kc25 (by simp only [List.mem_cons, List.not_mem_nil, or_false, not_or]; exact ne_b13_b21)
  have f26_2 := f22_2.keep Kc25 (by simp only [List.mem_cons, List.not_mem_nil, or_false, not_or]; exact ne_b13_b21)
  have f26_3 := f22_3.keep Kc25 (by simp only [List.mem_cons, List.not_mem_nil, or_false, not_or]; exact ne_b13_b21)
  have f26_4 := A21.keep Kc25
  have K27 := K23.trans Kc25 (fun x hx => by cases List.mem_singleton.mp hx; exact (Or.inr sz_b21))
  have Z25 : n0 ≤ T25.heap.size := Nat.le_trans Z21 Kc25.1
  have kp25 : T25.heap.size ≤ T25.heap.size := Nat.le_refl _
  have e25 : T25.heap = T25.heap := rfl
  have pre28 : ∀ t, Steps p.tables e below (T25.setTop (mkF m 100 #[.val (.long p1), .second, .val (.long p2), .second, .val (.long p3), .second, .val (.long p4), .second, .val (.long p5), .second, .val (.int p6), .val (.long (4294967295 : Int64)), .second, .val (.long fa), .second, .val (.long ta), .second, .val (.long fb), .second, .val (.long gb), .second, .val (.long tb), .second, .val (.ref b13), .val (.ref b21), .unset, .unset, .unset] [])) t → Steps p.tables e below (s₁.setTop (entryFrame m #[(.long p1), (.long p2), (.long p3), (.long p4), (.long p5), (.int p6)] maxLocals)) t := fun t k => pre24 t (by
    show Steps p.tables e below (T21.setTop (mkF m 95 #[.val (.long p1), .second, .val (.long p2), .second, .val (.long p3), .second, .val (.long p4), .second, .val (.long p5), .second, .val (.int p6), .val (.long (4294967295 : Int64)), .second, .val (.long fa), .second, .val (.long ta), .second, .val (.long fb), .second, .val (.long gb), .second, .val (.long tb), .second, .val (.ref b13), .unset, .unset, .unset, .unset] [(.long tb), (.long gb), (.long fb), (.ref b21), (.ref b21)])) _
    refine st25.trans ?_
    show Steps p.tables e below (T25.setTop (mkF m 98 #[.val (.long p1), .second, .val (.long p2), .second, .val (.long p3), .second, .val (.long p4), .second, .val (.long p5), .second, .val (.int p6), .val (.long (4294967295 : Int64)), .second, .val (.long fa), .second, .val (.long ta), .second, .val (.long fb), .second, .val (.long gb), .second, .val (.long tb), .second, .val (.ref b13), .unset, .unset, .unset, .unset] [(.ref b21)])) _
    refine XS.astore X25.here hx rfl (hb hby at_98) rfl rfl (l' := #[.val (.long p1), .second, .val (.long p2), .second, .val (.long p3), .second, .val (.long p4), .second, .val (.long p5), .second, .val (.int p6), .val (.long (4294967295 : Int64)), .second, .val (.long fa), .second, .val (.long ta), .second, .val (.long fb), .second, .val (.long gb), .second, .val (.long tb), .second, .val (.ref b13), .val (.ref b21), .unset, .unset, .unset]) rfl ?_
    show Steps p.tables e below (T25.setTop (mkF m 100 #[.val (.long p1), .second, .val (.long p2), .second, .val (.long p3), .second, .val (.long p4), .second, .val (.long p5), .second, .val (.int p6), .val (.long (4294967295 : Int64)), .second, .val (.long fa), .second, .val (.long ta), .second, .val (.long fb), .second, .val (.long gb), .second, .val (.long tb), .second, .val (.ref b13), .val (.ref b21), .unset, .unset, .unset] [])) _
    exact k)
  exact rs_0_3 l Z a0 hw ws p1 p2 p3 p4 p5 p6 ar cA h0 n0 fa ta fb gb tb b13 b21 Bd hZ hown hml T25.heap X25 e25 N25 Z25 S25 kp25 pre28 f26_0 f26_1 f26_2 f26_3 f26_4 Fa25 Fb25 Fd25 ne_b13_b21 g_b13 sz_b13 g_b21 sz_b21 K27 b_fa HS HA HZ HC
set_option maxRecDepth 65536 in
set_option maxHeartbeats 40000000 in
theorem rs_0_1 (l : Launch) (Z : State) (a0 : Array Value) (hw : ∀ d ∈ tables_1, d.before a0 Z = true) (ws : List Jvm.Cond) (p1 p2 p3 p4 p5 : Int64) (p6 : Int32) (ar : Addr) (cA : Cell) (h0 : Heap) (n0 : Nat) (fa : Int64) (ta : Int64) (fb : Int64) (gb : Int64) (tb : Int64) {p e s m below meth c s₁} (Bd : BodyLoose p l x (head1 (Jvm.Cond.code x code maxLocals ret :: ws) room_1) code maxLocals ret e s m #[(.long p1), (.long p2), (.long p3), (.long p4), (.long p5), (.int p6)] below meth c s₁) {vmc} (hZ : Z.Warmed39 (s.setVm vmc).vm) (hown : (s.setVm vmc).vm.findClass "com/example/terse_broker/tersebroker/codec/HandshakeEqualsPinLaw" = some m.cls) (hml : c.maxLocals = 28) {Tc Lc0} (hhc : Heap) (Xc : Stand p l e room_1 (s.setVm vmc) m #[(.long p1), (.long p2), (.long p3), (.long p4), (.long p5), (.int p6)] below meth c Tc Lc0 0 0) (ec : Tc.heap = hhc) (Nc : Fr n0 Lc0) (Zc : n0 ≤ hhc.size) {kwc : Nat} (Sc : s.Since vmc kwc) (kpc : kwc ≤ hhc.size) (prec : ∀ t, Steps p.tables e below (Tc.setTop (mkF m 71 #[.val (.long p1), .second, .val (.long p2), .second, .val (.long p3), .second, .val (.long p4), .second, .val (.long p5), .second, .val (.int p6), .val (.long (4294967295 : Int64)), .second, .val (.long fa), .second, .val (.long ta), .second, .val (.long fb), .second, .val (.long gb), .second, .val (.long tb), .second, .unset, .unset, .unset, .unset, .unset] [])) t → Steps p.tables e below (s₁.setTop (entryFrame m #[(.long p1), (.long p2), (.long p3), (.long p4), (.long p5), (.int p6)] maxLocals)) t) (Kk : Keep h0 hhc []) (b_fa : ¬ fa < (0 : Int64) ∧ ¬ (4294967295 : Int64) < fa) (b_ta : ¬ ta < (0 : Int64) ∧ ¬ (4294967295 : Int64) < ta) (h_fb : ¬ fb < (0 : Int64) ∧ ¬ (4294967295 : Int64) < fb) (h_tb : ¬ tb < (0 : Int64) ∧ ¬ (4294967295 : Int64) < tb) (HS : Sta Z h0 "java/lang/Long$LongCache" "cache" "[Ljava/lang/Long;" (.ref ar)) (HA : Arr Z h0 ar cA (.object "java/lang/Long")) (HZ : 256 ≤ cA.slots.size) (HC : ∀ i, i < 256 → ∃ b, cA.slots[i]? = some (.ref b) ∧ Exa Z h0 b "java/lang/Long") :
    ∃ s₂ o, Steps p.tables e below (s₁.setTop (entryFrame m #[(.long p1), (.long p2), (.long p3), (.long p4), (.long p5), (.int p6)] maxLocals)) s₂ ∧ s₂.status = .running ∧ Ended s₂ below o ∧ ∃ v L, o = .returned v ∧ Q_0 Z p1 p2 p3 p4 p5 p6 ar cA h0 n0 v s₂.heap L ∧ ReturnedEndW s o s₂ L room_1.cells room_1.slots := by
  have hx := Bd.exec
  have hby := Bd.bytes
  have hnm := (name_of_methodNamed Bd.named Bd.method).1
  obtain ⟨T13, h13, X13, e13, E13, A13, D13, -, st13⟩ := newO Xc hx hZ hown (hw _ (List.mem_of_getElem? (i := 1) rfl)) (hw _ (List.mem_of_getElem? (i := 2) rfl)) (hw _ (List.mem_of_getElem? (i := 3) rfl)) ec (g := (mkF m 71 #[.val (.long p1), .second, .val (.long p2), .second, .val (.long p3), .second, .val (.long p4), .second, .val (.long p5), .second, .val (.int p6), .val (.long (4294967295 : Int64)), .second, .val (.long fa), .second, .val (.long ta), .second, .val (.long fb), .second, .val (.long gb), .second, .val (.long tb), .second, .unset, .unset, .unset, .unset, .unset] [])) rfl (hb hby at_71) (by decide) (by decide)
  obtain ⟨b13, g13⟩ : ∃ z, z = hhc.size := ⟨_, rfl⟩
  rw [← g13] at A13 D13 st13
  have g_b13 : n0 ≤ b13 := Nat.le_trans Zc (Nat.le_of_eq g13.symm)
  have sz_b13 : h0.size ≤ b13 := Nat.le_trans Kk.1 (Nat.le_of_eq g13.symm)
  have Z13 : n0 ≤ h13.size := Nat.le_trans Zc E13.1
  have kp13 : kwc ≤ h13.size := Nat.le_trans kpc E13.1
  have K15 := Kk.ext E13
  have F13_maxFragmentSize : Fld Z h13 b13 "com/example/terse_broker/tersebroker/codec/Handshake" "maxFragmentSize" "J" (.long (0 : Int64)) := D13 (Or.inr (hw _ (List.mem_of_getElem? (i := 29) rfl))) (ty := .long) (by decide)
  have F13_maxAggregateSize : Fld Z h13 b13 "com/example/terse_broker/tersebroker/codec/Handshake" "maxAggregateSize" "J" (.long (0 : Int64)) := D13 (Or.inr (hw _ (List.mem_of_getElem? (i := 31) rfl))) (ty := .long) (by decide)
  have F13_ackTimeoutMillis : Fld Z h13 b13 "com/example/terse_broker/tersebroker/codec/Handshake" "ackTimeoutMillis" "J" (.long (0 : Int64)) := D13 (Or.inr (hw _ (List.mem_of_getElem? (i := 33) rfl))) (ty := .long) (by decide)
  have pre16 : ∀ t, Steps p.tables e below (T13.setTop (mkF m 80 #[.val (.long p1), .second, .val (.long p2), .second, .val (.long p3), .second, .val (.long p4), .second, .val (.long p5), .second, .val (.int p6), .val (.long (4294967295 : Int64)), .second, .val (.long fa), .second, .val (.long ta), .second, .val (.long fb), .second, .val (.long gb), .second, .val (.long tb), .second, .unset, .unset, .unset, .unset, .unset] [(.long ta), (.long p2), (.long fa), (.ref b13), (.ref b13)])) t → Steps p.tables e below (s₁.setTop (entryFrame m #[(.long p1), (.long p2), (.long p3), (.long p4), (.long p5), (.int p6)] maxLocals)) t := fun t k => prec t (by
    show Steps p.tables e below (Tc.setTop (mkF m 71 #[.val (.long p1), .second, .val (.long p2), .second, .val (.long p3), .second, .val (.long p4), .second, .val (.long p5), .second, .val (.int p6), .val (.long (4294967295 : Int64)), .second, .val (.long fa), .second, .val (.long ta), .second, .val (.long fb), .second, .val (.long gb), .second, .val (.long tb), .second, .unset, .unset, .unset, .unset, .unset] [])) _
    refine st13 _ ?_
    show Steps p.tables e below (T13.setTop (mkF m 74 #[.val (.long p1), .second, .val (.long p2), .second, .val (.long p3), .second, .val (.long p4), .second, .val (.long p5), .second, .val (.int p6), .val (.long (4294967295 : Int64)), .second, .val (.long fa), .second, .val (.long ta), .second, .val (.long fb), .second, .val (.long gb), .second, .val (.long tb), .second, .unset, .unset, .unset, .unset, .unset] [(.ref b13)])) _
    refine XS.dup X13.here hx rfl (hb hby at_74) rfl rfl ?_
    show Steps p.tables e below (T13.setTop (mkF m 75 #[.val (.long p1), .second, .val (.long p2), .second, .val (.long p3), .second, .val (.long p4), .second, .val (.long p5), .second, .val (.int p6), .val (.long (4294967295 : Int64)), .second, .val (.long fa), .second, .val (.long ta), .second, .val (.long fb), .second, .val (.long gb), .second, .val (.long tb), .second, .unset, .unset, .unset, .unset, .unset] [(.ref b13), (.ref b13)])) _
    refine XT.lload X13.here hx rfl (hb hby at_75) rfl ?_
    show Steps p.tables e below (T13.setTop (mkF m 77 #[.val (.long p1), .second, .val (.long p2), .second, .val (.long p3), .second, .val (.long p4), .second, .val (.long p5), .second, .val (.int p6), .val (.long (4294967295 : Int64)), .second, .val (.long fa), .second, .val (.long ta), .second, .val (.long fb), .second, .val (.long gb), .second, .val (.long tb), .second, .unset, .unset, .unset, .unset, .unset] [(.long fa), (.ref b13), (.ref b13)])) _
    refine XT.lloadN X13.here hx rfl (hb hby at_77) rfl ?_
    show Steps p.tables e below (T13.setTop (mkF m 78 #[.val (.long p1), .second, .val (.long p2), .second, .val (.long p3), .second, .val (.long p4), .second, .val (.long p5), .second, .val (.int p6), .val (.long (4294967295 : Int64)), .second, .val (.long fa), .second, .val (.long ta), .second, .val (.long fb), .second, .val (.long gb), .second, .val (.long tb), .second, .unset, .unset, .unset, .unset, .unset] [(.long p2), (.long fa), (.ref b13), (.ref b13)])) _
    refine XT.lload X13.here hx rfl (hb hby at_78) rfl ?_
    show Steps p.tables e below (T13.setTop (mkF m 80 #[.val (.long p1), .second, .val (.long p2), .second, .val (.long p3), .second, .val (.long p4), .second, .val (.long p5), .second, .val (.int p6), .val (.long (4294967295 : Int64)), .second, .val (.long fa), .second, .val (.long ta), .second, .val (.long fb), .second, .val (.long gb), .second, .val (.long tb), .second, .unset, .unset, .unset, .unset, .unset] [(.long ta), (.long p2), (.long fa), (.ref b13), (.ref b13)])) _
    exact k)
  obtain ⟨_, _, ⟨T17, L17, kk17, nn17⟩, -, Y17, Sx17, gr17, ⟨Lc17, hQ17, l17, y17, z17⟩, st17⟩ := X13.specialBackS hx (y := (⟨"com/example/terse_broker/tersebroker/codec/Handshake", "<init>", "(JJJ)V"⟩ : MethodName)) rfl hown (mvT hZ (hw _ (List.mem_of_getElem? (i := 4) rfl))) (mvT hZ (hw _ (List.mem_of_getElem? (i := 5) rfl))) (mvT hZ (hw _ (List.mem_of_getElem? (i := 6) rfl))) (by decide) (backOfS (W := 1) (rm_ini l Z a0 hw [] b13 fa p2 ta _ _ _ h13 n0 Z13 A13 F13_maxFragmentSize F13_maxAggregateSize F13_ackTimeoutMillis g_b13 b_fa b_ta) hZ (hw _ (List.mem_of_getElem? (i := 6) rfl)) (hw _ (List.mem_of_getElem? (i := 3) rfl)) (by decide) (by decide)) (g := (mkF m 80 #[.val (.long p1), .second, .val (.long p2), .second, .val (.long p3), .second, .val (.long p4), .second, .val (.long p5), .second, .val (.int p6), .val (.long (4294967295 : Int64)), .second, .val (.long fa), .second, .val (.long ta), .second, .val (.long fb), .second, .val (.long gb), .second, .val (.long tb), .second, .unset, .unset, .unset, .unset, .unset] [(.long ta), (.long p2), (.long fa), (.ref b13), (.ref b13)])) rfl (by rw [hml]; rfl) (Steps.refl _) (a := b13) (argsL := [(.long fa), (.long p2), (.long ta)]) (rest := [(.ref b13)]) (lenOf pd__JJJ_V rfl) rfl (by show 2 * 0 + _ ≤ _; exact Nat.le_of_eq rfl) (hb hby at_80) (fun _ _ => ⟨rfl, e13, (by decide : 1 + 4 ≤ _), (by decide : 3 + 148 ≤ _)⟩)
  dsimp only [Pt.U, Pt.locs, Pt.cells, Pt.slots] at Y17 Sx17 gr17 l17 y17 z17 st17 hQ17
  subst l17 y17 z17
  obtain ⟨X17, S17, hZ, hown⟩ := rebS Sc (Nat.le_trans kp13 (Nat.le_of_eq (congrArg Array.size e13.symm))) Y17 Sx17 gr17 hZ hown
  obtain ⟨rfl, N17q, Kc17, Fa17, Fb17, Fd17⟩ := hQ17
  have N17 := Fr.app Nc N17q
  have f18_0 := A13.keep Kc17
  have K19 := K15.trans Kc17 (fun x hx => by cases List.mem_singleton.mp hx; exact (Or.inr sz_b13))
  have Z17 : n0 ≤ T17.heap.size := Nat.le_trans Z13 Kc17.1
  have kp17 : T17.heap.size ≤ T17.heap.size := Nat.le_refl _
  have e17 : T17.heap = T17.heap := rfl
  have pre20 : ∀ t, Steps p.tables e below (T17.setTop (mkF m 85 #[.val (.long p1), .second, .val (.long p2), .second, .val (.long p3), .second, .val (.long p4), .second, .val (.long p5), .second, .val (.int p6), .val (.long (4294967295 : Int64)), .second, .val (.long fa), .second, .val (.long ta), .second, .val (.long fb), .second, .val (.long gb), .second, .val (.long tb), .second, .val (.ref b13), .unset, .unset, .unset, .unset] [])) t → Steps p.tables e below (s₁.setTop (entryFrame m #[(.long p1), (.long p2), (.long p3), (.long p4), (.long p5), (.int p6)] maxLocals)) t := fun t k => pre16 t (by
    show Steps p.tables e below (T13.setTop (mkF m 80 #[.val (.long p1), .second, .val (.long p2), .second, .val (.long p3), .second, .val (.long p4), .second, .val (.long p5), .second, .val (.int p6), .val (.long (4294967295 : Int64)), .second, .val (.long fa), .second, .val (.long ta), .second, .val (.long fb), .second, .val (.long gb), .second, .val (.long tb), .second, .unset, .unset, .unset, .unset, .unset] [(.long ta), (.long p2), (.long fa), (.ref b13), (.ref b13)])) _
    refine st17.trans ?_
    show Steps p.tables e below (T17.setTop (mkF m 83 #[.val (.long p1), .second, .val (.long p2), .second, .val (.long p3), .second, .val (.long p4), .second, .val (.long p5), .second, .val (.int p6), .val (.long (4294967295 : Int64)), .second, .val (.long fa), .second, .val (.long ta), .second, .val (.long fb), .second, .val (.long gb), .second, .val (.long tb), .second, .unset, .unset, .unset, .unset, .unset] [(.ref b13)])) _
    refine XS.astore X17.here hx rfl (hb hby at_83) rfl rfl (l' := #[.val (.long p1), .second, .val (.long p2), .second, .val (.long p3), .second, .val (.long p4), .second, .val (.long p5), .second, .val (.int p6), .val (.long (4294967295 : Int64)), .second, .val (.long fa), .second, .val (.long ta), .second, .val (.long fb), .second, .val (.long gb), .second, .val (.long tb), .second, .val (.ref b13), .unset, .unset, .unset, .unset]) rfl ?_
    show Steps p.tables e below (T17.setTop (mkF m 85 #[.val (.long p1), .second, .val (.long p2), .second, .val (.long p3), .second, .val (.long p4), .second, .val (.long p5), .second, .val (.int p6), .val (.long (4294967295 : Int64)), .second, .val (.long fa), .second, .val (.long ta), .second, .val (.long fb), .second, .val (.long gb), .second, .val (.long tb), .second, .val (.ref b13), .unset, .unset, .unset, .unset] [])) _
    exact k)
  exact rs_0_2 l Z a0 hw ws p1 p2 p3 p4 p5 p6 ar cA h0 n0 fa ta fb gb tb b13 Bd hZ hown hml T17.heap X17 e17 N17 Z17 S17 kp17 pre20 f18_0 Fa17 Fb17 Fd17 g_b13 sz_b13 K19 h_fb h_tb b_fa HS HA HZ HC
set_option maxRecDepth 65536 in
set_option maxHeartbeats 40000000 in
theorem rm_0 (l : Launch) (Z : State) (a0 : Array Value) (hw : ∀ d ∈ tables_1, d.before a0 Z = true) (ws : List Jvm.Cond) (p1 p2 p3 p4 p5 : Int64) (p6 : Int32) (ar : Addr) (cA : Cell) (h0 : Heap) (n0 : Nat) (Z0 : n0 ≤ h0.size) (HS : Sta Z h0 "java/lang/Long$LongCache" "cache" "[Ljava/lang/Long;" (.ref ar)) (HA : Arr Z h0 ar cA (.object "java/lang/Long")) (HZ : 256 ≤ cA.slots.size) (HC : ∀ i, i < 256 → ∃ b, cA.slots[i]? = some (.ref b) ∧ Exa Z h0 b "java/lang/Long") :
    MetFree l x (head1 (Jvm.Cond.code x code maxLocals ret :: ws) room_1) (fun a U => a = #[(.long p1), (.long p2), (.long p3), (.long p4), (.long p5), (.int p6)] ∧ Z.Warmed39 U.vm ∧ U.heap = h0) (fun _ _ _ _ _ => True) (fun _ U o U' => ∃ v L, o = .returned v ∧ Q_0 Z p1 p2 p3 p4 p5 p6 ar cA h0 n0 v U'.heap L ∧ ReturnedEndW U o U' L room_1.cells room_1.slots) := by
  refine MetFree.of_bodySF (plainFor_of_name pn_0) hisR ?_
  intro p e s m args below meth c s₁ Bd hml0 hP hK
  obtain ⟨rfl, hZ, hh⟩ := hP
  have hx := Bd.exec
  have hby := Bd.bytes
  have hml : c.maxLocals = 28 := hml0
  have hown : s.vm.findClass "com/example/terse_broker/tersebroker/codec/HandshakeEqualsPinLaw" = some m.cls := findClass_of_methodNamed Bd.named
  have hnm := (name_of_methodNamed Bd.named Bd.method).1
  have X0 : Stand p l e room_1 (s.setVm s.vm) m #[(.long p1), (.long p2), (.long p3), (.long p4), (.long p5), (.int p6)] below meth c s₁ [] 0 0 := Stand.of_body Bd
  have S0 : s.Since s.vm 0 := (State.WarmedH.refl s).since 0
  have kp0 : 0 ≤ h0.size := Nat.zero_le _
  have e0 : s₁.heap = h0 := by rw [← hh, Bd.state]; rfl
  have N0 := Fr.nil n0
  have pre0 : ∀ t, Steps p.tables e below (s₁.setTop (mkF m 0 #[.val (.long p1), .second, .val (.long p2), .second, .val (.long p3), .second, .val (.long p4), .second, .val (.long p5), .second, .val (.int p6), .unset, .unset, .unset, .unset, .unset, .unset, .unset, .unset, .unset, .unset, .unset, .unset, .unset, .unset, .unset, .unset, .unset] [])) t → Steps p.tables e below (s₁.setTop (entryFrame m #[(.long p1), (.long p2), (.long p3), (.long p4), (.long p5), (.int p6)] maxLocals)) t := fun t k => castTop (ef_0 m p1 p2 p3 p4 p5 p6) k
  have K2 : Keep h0 h0 [] := Keep.refl h0 []
  obtain ⟨fa, h_fa, b_fa⟩ : ∃ z : Int64, (p1 &&& (4294967295 : Int64)) = z ∧ (¬ z < (0 : Int64) ∧ ¬ (4294967295 : Int64) < z) := ⟨_, rfl, own_msk p1⟩
  obtain ⟨ta, h_ta, b_ta⟩ : ∃ z : Int64, (p3 &&& (4294967295 : Int64)) = z ∧ (¬ z < (0 : Int64) ∧ ¬ (4294967295 : Int64) < z) := ⟨_, rfl, own_msk p3⟩
  have pre3 : ∀ t, Steps p.tables e below (s₁.setTop (mkF m 22 #[.val (.long p1), .second, .val (.long p2), .second, .val (.long p3), .second, .val (.long p4), .second, .val (.long p5), .second, .val (.int p6), .val (.long (4294967295 : Int64)), .second, .val (.long fa), .second, .val (.long ta), .second, .unset, .unset, .unset, .unset, .unset, .unset, .unset, .unset, .unset, .unset, .unset] [(.int (p6 &&& (1 : Int32)))])) t → Steps p.tables e below (s₁.setTop (entryFrame m #[(.long p1), (.long p2), (.long p3), (.long p4), (.long p5), (.int p6)] maxLocals)) t := fun t k => pre0 t (by
    show Steps p.tables e below (s₁.setTop (mkF m 0 #[.val (.long p1), .second, .val (.long p2), .second, .val (.long p3), .second, .val (.long p4), .second, .val (.long p5), .second, .val (.int p6), .unset, .unset, .unset, .unset, .unset, .unset, .unset, .unset, .unset, .unset, .unset, .unset, .unset, .unset, .unset, .unset, .unset] [])) _
    refine X0.ldc2J hx hown (mvT hZ (hw _ (List.mem_of_getElem? (i := 0) rfl))) rfl (hb hby at_0) ?_
    show Steps p.tables e below (s₁.setTop (mkF m 3 #[.val (.long p1), .second, .val (.long p2), .second, .val (.long p3), .second, .val (.long p4), .second, .val (.long p5), .second, .val (.int p6), .unset, .unset, .unset, .unset, .unset, .unset, .unset, .unset, .unset, .unset, .unset, .unset, .unset, .unset, .unset, .unset, .unset] [(.long (4294967295 : Int64))])) _
    refine XT.lstore X0.here hx rfl (hb hby at_3) rfl (l' := #[.val (.long p1), .second, .val (.long p2), .second, .val (.long p3), .second, .val (.long p4), .second, .val (.long p5), .second, .val (.int p6), .val (.long (4294967295 : Int64)), .second, .unset, .unset, .unset, .unset, .unset, .unset, .unset, .unset, .unset, .unset, .unset, .unset, .unset, .unset, .unset]) rfl ?_
    show Steps p.tables e below (s₁.setTop (mkF m 5 #[.val (.long p1), .second, .val (.long p2), .second, .val (.long p3), .second, .val (.long p4), .second, .val (.long p5), .second, .val (.int p6), .val (.long (4294967295 : Int64)), .second, .unset, .unset, .unset, .unset, .unset, .unset, .unset, .unset, .unset, .unset, .unset, .unset, .unset, .unset, .unset] [])) _
    refine XT.lloadN X0.here hx rfl (hb hby at_5) rfl ?_
    show Steps p.tables e below (s₁.setTop (mkF m 6 #[.val (.long p1), .second, .val (.long p2), .second, .val (.long p3), .second, .val (.long p4), .second, .val (.long p5), .second, .val (.int p6), .val (.long (4294967295 : Int64)), .second, .unset, .unset, .unset, .unset, .unset, .unset, .unset, .unset, .unset, .unset, .unset, .unset, .unset, .unset, .unset] [(.long p1)])) _
    refine XT.lload X0.here hx rfl (hb hby at_6) rfl ?_
    show Steps p.tables e below (s₁.setTop (mkF m 8 #[.val (.long p1), .second, .val (.long p2), .second, .val (.long p3), .second, .val (.long p4), .second, .val (.long p5), .second, .val (.int p6), .val (.long (4294967295 : Int64)), .second, .unset, .unset, .unset, .unset, .unset, .unset, .unset, .unset, .unset, .unset, .unset, .unset, .unset, .unset, .unset] [(.long (4294967295 : Int64)), (.long p1)])) _
    refine XT.land X0.here hx rfl (hb hby at_8) rfl ?_
    show Steps p.tables e below (s₁.setTop (mkF m 9 #[.val (.long p1), .second, .val (.long p2), .second, .val (.long p3), .second, .val (.long p4), .second, .val (.long p5), .second, .val (.int p6), .val (.long (4294967295 : Int64)), .second, .unset, .unset, .unset, .unset, .unset, .unset, .unset, .unset, .unset, .unset, .unset, .unset, .unset, .unset, .unset] [(.long (p1 &&& (4294967295 : Int64)))])) _
    rw [h_fa]
    show Steps p.tables e below (s₁.setTop (mkF m 9 #[.val (.long p1), .second, .val (.long p2), .second, .val (.long p3), .second, .val (.long p4), .second, .val (.long p5), .second, .val (.int p6), .val (.long (4294967295 : Int64)), .second, .unset, .unset, .unset, .unset, .unset, .unset, .unset, .unset, .unset, .unset, .unset, .unset, .unset, .unset, .unset] [(.long fa)])) _
    refine XT.lstore X0.here hx rfl (hb hby at_9) rfl (l' := #[.val (.long p1), .second, .val (.long p2), .second, .val (.long p3), .second, .val (.long p4), .second, .val (.long p5), .second, .val (.int p6), .val (.long (4294967295 : Int64)), .second, .val (.long fa), .second, .unset, .unset, .unset, .unset, .unset, .unset, .unset, .unset, .unset, .unset, .unset, .unset, .unset]) rfl ?_
    show Steps p.tables e below (s₁.setTop (mkF m 11 #[.val (.long p1), .second, .val (.long p2), .second, .val (.long p3), .second, .val (.long p4), .second, .val (.long p5), .second, .val (.int p6), .val (.long (4294967295 : Int64)), .second, .val (.long fa), .second, .unset, .unset, .unset, .unset, .unset, .unset, .unset, .unset, .unset, .unset, .unset, .unset, .unset] [])) _
    refine XT.lload X0.here hx rfl (hb hby at_11) rfl ?_
    show Steps p.tables e below (s₁.setTop (mkF m 13 #[.val (.long p1), .second, .val (.long p2), .second, .val (.long p3), .second, .val (.long p4), .second, .val (.long p5), .second, .val (.int p6), .val (.long (4294967295 : Int64)), .second, .val (.long fa), .second, .unset, .unset, .unset, .unset, .unset, .unset, .unset, .unset, .unset, .unset, .unset, .unset, .unset] [(.long p3)])) _
    refine XT.lload X0.here hx rfl (hb hby at_13) rfl ?_
    show Steps p.tables e below (s₁.setTop (mkF m 15 #[.val (.long p1), .second, .val (.long p2), .second, .val (.long p3), .second, .val (.long p4), .second, .val (.long p5), .second, .val (.int p6), .val (.long (4294967295 : Int64)), .second, .val (.long fa), .second, .unset, .unset, .unset, .unset, .unset, .unset, .unset, .unset, .unset, .unset, .unset, .unset, .unset] [(.long (4294967295 : Int64)), (.long p3)])) _
    refine XT.land X0.here hx rfl (hb hby at_15) rfl ?_
    show Steps p.tables e below (s₁.setTop (mkF m 16 #[.val (.long p1), .second, .val (.long p2), .second, .val (.long p3), .second, .val (.long p4), .second, .val (.long p5), .second, .val (.int p6), .val (.long (4294967295 : Int64)), .second, .val (.long fa), .second, .unset, .unset, .unset, .unset, .unset, .unset, .unset, .unset, .unset, .unset, .unset, .unset, .unset] [(.long (p3 &&& (4294967295 : Int64)))])) _
    rw [h_ta]
    show Steps p.tables e below (s₁.setTop (mkF m 16 #[.val (.long p1), .second, .val (.long p2), .second, .val (.long p3), .second, .val (.long p4), .second, .val (.long p5), .second, .val (.int p6), .val (.long (4294967295 : Int64)), .second, .val (.long fa), .second, .unset, .unset, .unset, .unset, .unset, .unset, .unset, .unset, .unset, .unset, .unset, .unset, .unset] [(.long ta)])) _
    refine XT.lstore X0.here hx rfl (hb hby at_16) rfl (l' := #[.val (.long p1), .second, .val (.long p2), .second, .val (.long p3), .second, .val (.long p4), .second, .val (.long p5), .second, .val (.int p6), .val (.long (4294967295 : Int64)), .second, .val (.long fa), .second, .val (.long ta), .second, .unset, .unset, .unset, .unset, .unset, .unset, .unset, .unset, .unset, .unset, .unset]) rfl ?_
    show Steps p.tables e below (s₁.setTop (mkF m 18 #[.val (.long p1), .second, .val (.long p2), .second, .val (.long p3), .second, .val (.long p4), .second, .val (.long p5), .second, .val (.int p6), .val (.long (4294967295 : Int64)), .second, .val (.long fa), .second, .val (.long ta), .second, .unset, .unset, .unset, .unset, .unset, .unset, .unset, .unset, .unset, .unset, .unset] [])) _
    refine XS.iload X0.here hx rfl (hb hby at_18) rfl ?_
    show Steps p.tables e below (s₁.setTop (mkF m 20 #[.val (.long p1), .second, .val (.long p2), .second, .val (.long p3), .second, .val (.long p4), .second, .val (.long p5), .second, .val (.int p6), .val (.long (4294967295 : Int64)), .second, .val (.long fa), .second, .val (.long ta), .second, .unset, .unset, .unset, .unset, .unset, .unset, .unset, .unset, .unset, .unset, .unset] [(.int p6)])) _
    refine XS.iconst X0.here hx rfl (hb hby at_20) ?_
    show Steps p.tables e below (s₁.setTop (mkF m 21 #[.val (.long p1), .second, .val (.long p2), .second, .val (.long p3), .second, .val (.long p4), .second, .val (.long p5), .second, .val (.int p6), .val (.long (4294967295 : Int64)), .second, .val (.long fa), .second, .val (.long ta), .second, .unset, .unset, .unset, .unset, .unset, .unset, .unset, .unset, .unset, .unset, .unset] [(.int (1 : Int32)), (.int p6)])) _
    refine XS.iand X0.here hx rfl (hb hby at_21) rfl ?_
    show Steps p.tables e below (s₁.setTop (mkF m 22 #[.val (.long p1), .second, .val (.long p2), .second, .val (.long p3), .second, .val (.long p4), .second, .val (.long p5), .second, .val (.int p6), .val (.long (4294967295 : Int64)), .second, .val (.long fa), .second, .val (.long ta), .second, .unset, .unset, .unset, .unset, .unset, .unset, .unset, .unset, .unset, .unset, .unset] [(.int (p6 &&& (1 : Int32)))])) _
    exact k)
  obtain ⟨fb, h_fb, pre_fb⟩ : ∃ z : Int64, ((¬ z < (0 : Int64) ∧ ¬ (4294967295 : Int64) < z)) ∧ ∀ t, Steps p.tables e below (s₁.setTop (mkF m 35 #[.val (.long p1), .second, .val (.long p2), .second, .val (.long p3), .second, .val (.long p4), .second, .val (.long p5), .second, .val (.int p6), .val (.long (4294967295 : Int64)), .second, .val (.long fa), .second, .val (.long ta), .second, .unset, .unset, .unset, .unset, .unset, .unset, .unset, .unset, .unset, .unset, .unset] [(.long z)])) t → Steps p.tables e below (s₁.setTop (entryFrame m #[(.long p1), (.long p2), (.long p3), (.long p4), (.long p5), (.int p6)] maxLocals)) t := by
    by_cases hB : (p6 &&& (1 : Int32)) = 0
    · skip
      have pre4 : ∀ t, Steps p.tables e below (s₁.setTop (mkF m 35 #[.val (.long p1), .second, .val (.long p2), .second, .val (.long p3), .second, .val (.long p4), .second, .val (.long p5), .second, .val (.int p6), .val (.long (4294967295 : Int64)), .second, .val (.long fa), .second, .val (.long ta), .second, .unset, .unset, .unset, .unset, .unset, .unset, .unset, .unset, .unset, .unset, .unset] [(.long (p4 &&& (4294967295 : Int64)))])) t → Steps p.tables e below (s₁.setTop (entryFrame m #[(.long p1), (.long p2), (.long p3), (.long p4), (.long p5), (.int p6)] maxLocals)) t := fun t k => pre3 t (by
        show Steps p.tables e below (s₁.setTop (mkF m 22 #[.val (.long p1), .second, .val (.long p2), .second, .val (.long p3), .second, .val (.long p4), .second, .val (.long p5), .second, .val (.int p6), .val (.long (4294967295 : Int64)), .second, .val (.long fa), .second, .val (.long ta), .second, .unset, .unset, .unset, .unset, .unset, .unset, .unset, .unset, .unset, .unset, .unset] [(.int (p6 &&& (1 : Int32)))])) _
        refine XS.ifYes X0.here hx rfl (pc0 := 22) (pc' := 30) rfl (hb hby at_22) rfl (XT.i0_eq_t hB) (by decide) (by decide) ?_
        show Steps p.tables e below (s₁.setTop (mkF m 30 #[.val (.long p1), .second, .val (.long p2), .second, .val (.long p3), .second, .val (.long p4), .second, .val (.long p5), .second, .val (.int p6), .val (.long (4294967295 : Int64)), .second, .val (.long fa), .second, .val (.long ta), .second, .unset, .unset, .unset, .unset, .unset, .unset, .unset, .unset, .unset, .unset, .unset] [])) _
        refine XT.lload X0.here hx rfl (hb hby at_30) rfl ?_
        show Steps p.tables e below (s₁.setTop (mkF m 32 #[.val (.long p1), .second, .val (.long p2), .second, .val (.long p3), .second, .val (.long p4), .second, .val (.long p5), .second, .val (.int p6), .val (.long (4294967295 : Int64)), .second, .val (.long fa), .second, .val (.long ta), .second, .unset, .unset, .unset, .unset, .unset, .unset, .unset, .unset, .unset, .unset, .unset] [(.long p4)])) _
        refine XT.lload X0.here hx rfl (hb hby at_32) rfl ?_
        show Steps p.tables e below (s₁.setTop (mkF m 34 #[.val (.long p1), .second, .val (.long p2), .second, .val (.long p3), .second, .val (.long p4), .second, .val (.long p5), .second, .val (.int p6), .val (.long (4294967295 : Int64)), .second, .val (.long fa), .second, .val (.long ta), .second, .unset, .unset, .unset, .unset, .unset, .unset, .unset, .unset, .unset, .unset, .unset] [(.long (4294967295 : Int64)), (.long p4)])) _
        refine XT.land X0.here hx rfl (hb hby at_34) rfl ?_
        show Steps p.tables e below (s₁.setTop (mkF m 35 #[.val (.long p1), .second, .val (.long p2), .second, .val (.long p3), .second, .val (.long p4), .second, .val (.long p5), .second, .val (.int p6), .val (.long (4294967295 : Int64)), .second, .val (.long fa), .second, .val (.long ta), .second, .unset, .unset, .unset, .unset, .unset, .unset, .unset, .unset, .unset, .unset, .unset] [(.long (p4 &&& (4294967295 : Int64)))])) _
        exact k)
      exact ⟨(p4 &&& (4294967295 : Int64)), own_msk p4, pre4⟩
    · skip
      have pre5 : ∀ t, Steps p.tables e below (s₁.setTop (mkF m 35 #[.val (.long p1), .second, .val (.long p2), .second, .val (.long p3), .second, .val (.long p4), .second, .val (.long p5), .second, .val (.int p6), .val (.long (4294967295 : Int64)), .second, .val (.long fa), .second, .val (.long ta), .second, .unset, .unset, .unset, .unset, .unset, .unset, .unset, .unset, .unset, .unset, .unset] [(.long fa)])) t → Steps p.tables e below (s₁.setTop (entryFrame m #[(.long p1), (.long p2), (.long p3), (.long p4), (.long p5), (.int p6)] maxLocals)) t := fun t k => pre3 t (by
        show Steps p.tables e below (s₁.setTop (mkF m 22 #[.val (.long p1), .second, .val (.long p2), .second, .val (.long p3), .second, .val (.long p4), .second, .val (.long p5), .second, .val (.int p6), .val (.long (4294967295 : Int64)), .second, .val (.long fa), .second, .val (.long ta), .second, .unset, .unset, .unset, .unset, .unset, .unset, .unset, .unset, .unset, .unset, .unset] [(.int (p6 &&& (1 : Int32)))])) _
        refine XS.ifNo X0.here hx rfl (hb hby at_22) rfl (XT.i0_eq_f hB) ?_
        show Steps p.tables e below (s₁.setTop (mkF m 25 #[.val (.long p1), .second, .val (.long p2), .second, .val (.long p3), .second, .val (.long p4), .second, .val (.long p5), .second, .val (.int p6), .val (.long (4294967295 : Int64)), .second, .val (.long fa), .second, .val (.long ta), .second, .unset, .unset, .unset, .unset, .unset, .unset, .unset, .unset, .unset, .unset, .unset] [])) _
        refine XT.lload X0.here hx rfl (hb hby at_25) rfl ?_
        show Steps p.tables e below (s₁.setTop (mkF m 27 #[.val (.long p1), .second, .val (.long p2), .second, .val (.long p3), .second, .val (.long p4), .second, .val (.long p5), .second, .val (.int p6), .val (.long (4294967295 : Int64)), .second, .val (.long fa), .second, .val (.long ta), .second, .unset, .unset, .unset, .unset, .unset, .unset, .unset, .unset, .unset, .unset, .unset] [(.long fa)])) _
        refine XS.goto X0.here hx rfl (pc0 := 27) (pc' := 35) rfl (hb hby at_27) (by decide) (by decide) ?_
        show Steps p.tables e below (s₁.setTop (mkF m 35 #[.val (.long p1), .second, .val (.long p2), .second, .val (.long p3), .second, .val (.long p4), .second, .val (.long p5), .second, .val (.int p6), .val (.long (4294967295 : Int64)), .second, .val (.long fa), .second, .val (.long ta), .second, .unset, .unset, .unset, .unset, .unset, .unset, .unset, .unset, .unset, .unset, .unset] [(.long fa)])) _
        exact k)
      exact ⟨fa, b_fa, pre5⟩
  have pre6 : ∀ t, Steps p.tables e below (s₁.setTop (mkF m 41 #[.val (.long p1), .second, .val (.long p2), .second, .val (.long p3), .second, .val (.long p4), .second, .val (.long p5), .second, .val (.int p6), .val (.long (4294967295 : Int64)), .second, .val (.long fa), .second, .val (.long ta), .second, .val (.long fb), .second, .unset, .unset, .unset, .unset, .unset, .unset, .unset, .unset, .unset] [(.int (p6 &&& (2 : Int32)))])) t → Steps p.tables e below (s₁.setTop (entryFrame m #[(.long p1), (.long p2), (.long p3), (.long p4), (.long p5), (.int p6)] maxLocals)) t := fun t k => pre_fb t (by
    show Steps p.tables e below (s₁.setTop (mkF m 35 #[.val (.long p1), .second, .val (.long p2), .second, .val (.long p3), .second, .val (.long p4), .second, .val (.long p5), .second, .val (.int p6), .val (.long (4294967295 : Int64)), .second, .val (.long fa), .second, .val (.long ta), .second, .unset, .unset, .unset, .unset, .unset, .unset, .unset, .unset, .unset, .unset, .unset] [(.long fb)])) _
    refine XT.lstore X0.here hx rfl (hb hby at_35) rfl (l' := #[.val (.long p1), .second, .val (.long p2), .second, .val (.long p3), .second, .val (.long p4), .second, .val (.long p5), .second, .val (.int p6), .val (.long (4294967295 : Int64)), .second, .val (.long fa), .second, .val (.long ta), .second, .val (.long fb), .second, .unset, .unset, .unset, .unset, .unset, .unset, .unset, .unset, .unset]) rfl ?_
    show Steps p.tables e below (s₁.setTop (mkF m 37 #[.val (.long p1), .second, .val (.long p2), .second, .val (.long p3), .second, .val (.long p4), .second, .val (.long p5), .second, .val (.int p6), .val (.long (4294967295 : Int64)), .second, .val (.long fa), .second, .val (.long ta), .second, .val (.long fb), .second, .unset, .unset, .unset, .unset, .unset, .unset, .unset, .unset, .unset] [])) _
    refine XS.iload X0.here hx rfl (hb hby at_37) rfl ?_
    show Steps p.tables e below (s₁.setTop (mkF m 39 #[.val (.long p1), .second, .val (.long p2), .second, .val (.long p3), .second, .val (.long p4), .second, .val (.long p5), .second, .val (.int p6), .val (.long (4294967295 : Int64)), .second, .val (.long fa), .second, .val (.long ta), .second, .val (.long fb), .second, .unset, .unset, .unset, .unset, .unset, .unset, .unset, .unset, .unset] [(.int p6)])) _
    refine XS.iconst X0.here hx rfl (hb hby at_39) ?_
    show Steps p.tables e below (s₁.setTop (mkF m 40 #[.val (.long p1), .second, .val (.long p2), .second, .val (.long p3), .second, .val (.long p4), .second, .val (.long p5), .second, .val (.int p6), .val (.long (4294967295 : Int64)), .second, .val (.long fa), .second, .val (.long ta), .second, .val (.long fb), .second, .unset, .unset, .unset, .unset, .unset, .unset, .unset, .unset, .unset] [(.int (2 : Int32)), (.int p6)])) _
    refine XS.iand X0.here hx rfl (hb hby at_40) rfl ?_
    show Steps p.tables e below (s₁.setTop (mkF m 41 #[.val (.long p1), .second, .val (.long p2), .second, .val (.long p3), .second, .val (.long p4), .second, .val (.long p5), .second, .val (.int p6), .val (.long (4294967295 : Int64)), .second, .val (.long fa), .second, .val (.long ta), .second, .val (.long fb), .second, .unset, .unset, .unset, .unset, .unset, .unset, .unset, .unset, .unset] [(.int (p6 &&& (2 : Int32)))])) _
    exact k)
  obtain ⟨gb, h_gb, pre_gb⟩ : ∃ z : Int64, (True) ∧ ∀ t, Steps p.tables e below (s₁.setTop (mkF m 50 #[.val (.long p1), .second, .val (.long p2), .second, .val (.long p3), .second, .val (.long p4), .second, .val (.long p5), .second, .val (.int p6), .val (.long (4294967295 : Int64)), .second, .val (.long fa), .second, .val (.long ta), .second, .val (.long fb), .second, .unset, .unset, .unset, .unset, .unset, .unset, .unset, .unset, .unset] [(.long z)])) t → Steps p.tables e below (s₁.setTop (entryFrame m #[(.long p1), (.long p2), (.long p3), (.long p4), (.long p5), (.int p6)] maxLocals)) t := by
    by_cases hB : (p6 &&& (2 : Int32)) = 0
    · skip
      have pre7 : ∀ t, Steps p.tables e below (s₁.setTop (mkF m 50 #[.val (.long p1), .second, .val (.long p2), .second, .val (.long p3), .second, .val (.long p4), .second, .val (.long p5), .second, .val (.int p6), .val (.long (4294967295 : Int64)), .second, .val (.long fa), .second, .val (.long ta), .second, .val (.long fb), .second, .unset, .unset, .unset, .unset, .unset, .unset, .unset, .unset, .unset] [(.long p5)])) t → Steps p.tables e below (s₁.setTop (entryFrame m #[(.long p1), (.long p2), (.long p3), (.long p4), (.long p5), (.int p6)] maxLocals)) t := fun t k => pre6 t (by
        show Steps p.tables e below (s₁.setTop (mkF m 41 #[.val (.long p1), .second, .val (.long p2), .second, .val (.long p3), .second, .val (.long p4), .second, .val (.long p5), .second, .val (.int p6), .val (.long (4294967295 : Int64)), .second, .val (.long fa), .second, .val (.long ta), .second, .val (.long fb), .second, .unset, .unset, .unset, .unset, .unset, .unset, .unset, .unset, .unset] [(.int (p6 &&& (2 : Int32)))])) _
        refine XS.ifYes X0.here hx rfl (pc0 := 41) (pc' := 48) rfl (hb hby at_41) rfl (XT.i0_eq_t hB) (by decide) (by decide) ?_
        show Steps p.tables e below (s₁.setTop (mkF m 48 #[.val (.long p1), .second, .val (.long p2), .second, .val (.long p3), .second, .val (.long p4), .second, .val (.long p5), .second, .val (.int p6), .val (.long (4294967295 : Int64)), .second, .val (.long fa), .second, .val (.long ta), .second, .val (.long fb), .second, .unset, .unset, .unset, .unset, .unset, .unset, .unset, .unset, .unset] [])) _
        refine XT.lload X0.here hx rfl (hb hby at_48) rfl ?_
        show Steps p.tables e below (s₁.setTop (mkF m 50 #[.val (.long p1), .second, .val (.long p2), .second, .val (.long p3), .second, .val (.long p4), .second, .val (.long p5), .second, .val (.int p6), .val (.long (4294967295 : Int64)), .second, .val (.long fa), .second, .val (.long ta), .second, .val (.long fb), .second, .unset, .unset, .unset, .unset, .unset, .unset, .unset, .unset, .unset] [(.long p5)])) _
        exact k)
      exact ⟨p5, trivial, pre7⟩
    · skip
      have pre8 : ∀ t, Steps p.tables e below (s₁.setTop (mkF m 50 #[.val (.long p1), .second, .val (.long p2), .second, .val (.long p3), .second, .val (.long p4), .second, .val (.long p5), .second, .val (.int p6), .val (.long (4294967295 : Int64)), .second, .val (.long fa), .second, .val (.long ta), .second, .val (.long fb), .second, .unset, .unset, .unset, .unset, .unset, .unset, .unset, .unset, .unset] [(.long p2)])) t → Steps p.tables e below (s₁.setTop (entryFrame m #[(.long p1), (.long p2), (.long p3), (.long p4), (.long p5), (.int p6)] maxLocals)) t := fun t k => pre6 t (by
        show Steps p.tables e below (s₁.setTop (mkF m 41 #[.val (.long p1), .second, .val (.long p2), .second, .val (.long p3), .second, .val (.long p4), .second, .val (.long p5), .second, .val (.int p6), .val (.long (4294967295 : Int64)), .second, .val (.long fa), .second, .val (.long ta), .second, .val (.long fb), .second, .unset, .unset, .unset, .unset, .unset, .unset, .unset, .unset, .unset] [(.int (p6 &&& (2 : Int32)))])) _
        refine XS.ifNo X0.here hx rfl (hb hby at_41) rfl (XT.i0_eq_f hB) ?_
        show Steps p.tables e below (s₁.setTop (mkF m 44 #[.val (.long p1), .second, .val (.long p2), .second, .val (.long p3), .second, .val (.long p4), .second, .val (.long p5), .second, .val (.int p6), .val (.long (4294967295 : Int64)), .second, .val (.long fa), .second, .val (.long ta), .second, .val (.long fb), .second, .unset, .unset, .unset, .unset, .unset, .unset, .unset, .unset, .unset] [])) _
        refine XT.lloadN X0.here hx rfl (hb hby at_44) rfl ?_
        show Steps p.tables e below (s₁.setTop (mkF m 45 #[.val (.long p1), .second, .val (.long p2), .second, .val (.long p3), .second, .val (.long p4), .second, .val (.long p5), .second, .val (.int p6), .val (.long (4294967295 : Int64)), .second, .val (.long fa), .second, .val (.long ta), .second, .val (.long fb), .second, .unset, .unset, .unset, .unset, .unset, .unset, .unset, .unset, .unset] [(.long p2)])) _
        refine XS.goto X0.here hx rfl (pc0 := 45) (pc' := 50) rfl (hb hby at_45) (by decide) (by decide) ?_
        show Steps p.tables e below (s₁.setTop (mkF m 50 #[.val (.long p1), .second, .val (.long p2), .second, .val (.long p3), .second, .val (.long p4), .second, .val (.long p5), .second, .val (.int p6), .val (.long (4294967295 : Int64)), .second, .val (.long fa), .second, .val (.long ta), .second, .val (.long fb), .second, .unset, .unset, .unset, .unset, .unset, .unset, .unset, .unset, .unset] [(.long p2)])) _
        exact k)
      exact ⟨p2, trivial, pre8⟩
  have pre9 : ∀ t, Steps p.tables e below (s₁.setTop (mkF m 56 #[.val (.long p1), .second, .val (.long p2), .second, .val (.long p3), .second, .val (.long p4), .second, .val (.long p5), .second, .val (.int p6), .val (.long (4294967295 : Int64)), .second, .val (.long fa), .second, .val (.long ta), .second, .val (.long fb), .second, .val (.long gb), .second, .unset, .unset, .unset, .unset, .unset, .unset, .unset] [(.int (p6 &&& (4 : Int32)))])) t → Steps p.tables e below (s₁.setTop (entryFrame m #[(.long p1), (.long p2), (.long p3), (.long p4), (.long p5), (.int p6)] maxLocals)) t := fun t k => pre_gb t (by
    show Steps p.tables e below (s₁.setTop (mkF m 50 #[.val (.long p1), .second, .val (.long p2), .second, .val (.long p3), .second, .val (.long p4), .second, .val (.long p5), .second, .val (.int p6), .val (.long (4294967295 : Int64)), .second, .val (.long fa), .second, .val (.long ta), .second, .val (.long fb), .second, .unset, .unset, .unset, .unset, .unset, .unset, .unset, .unset, .unset] [(.long gb)])) _
    refine XT.lstore X0.here hx rfl (hb hby at_50) rfl (l' := #[.val (.long p1), .second, .val (.long p2), .second, .val (.long p3), .second, .val (.long p4), .second, .val (.long p5), .second, .val (.int p6), .val (.long (4294967295 : Int64)), .second, .val (.long fa), .second, .val (.long ta), .second, .val (.long fb), .second, .val (.long gb), .second, .unset, .unset, .unset, .unset, .unset, .unset, .unset]) rfl ?_
    show Steps p.tables e below (s₁.setTop (mkF m 52 #[.val (.long p1), .second, .val (.long p2), .second, .val (.long p3), .second, .val (.long p4), .second, .val (.long p5), .second, .val (.int p6), .val (.long (4294967295 : Int64)), .second, .val (.long fa), .second, .val (.long ta), .second, .val (.long fb), .second, .val (.long gb), .second, .unset, .unset, .unset, .unset, .unset, .unset, .unset] [])) _
    refine XS.iload X0.here hx rfl (hb hby at_52) rfl ?_
    show Steps p.tables e below (s₁.setTop (mkF m 54 #[.val (.long p1), .second, .val (.long p2), .second, .val (.long p3), .second, .val (.long p4), .second, .val (.long p5), .second, .val (.int p6), .val (.long (4294967295 : Int64)), .second, .val (.long fa), .second, .val (.long ta), .second, .val (.long fb), .second, .val (.long gb), .second, .unset, .unset, .unset, .unset, .unset, .unset, .unset] [(.int p6)])) _
    refine XS.iconst X0.here hx rfl (hb hby at_54) ?_
    show Steps p.tables e below (s₁.setTop (mkF m 55 #[.val (.long p1), .second, .val (.long p2), .second, .val (.long p3), .second, .val (.long p4), .second, .val (.long p5), .second, .val (.int p6), .val (.long (4294967295 : Int64)), .second, .val (.long fa), .second, .val (.long ta), .second, .val (.long fb), .second, .val (.long gb), .second, .unset, .unset, .unset, .unset, .unset, .unset, .unset] [(.int (4 : Int32)), (.int p6)])) _
    refine XS.iand X0.here hx rfl (hb hby at_55) rfl ?_
    show Steps p.tables e below (s₁.setTop (mkF m 56 #[.val (.long p1), .second, .val (.long p2), .second, .val (.long p3), .second, .val (.long p4), .second, .val (.long p5), .second, .val (.int p6), .val (.long (4294967295 : Int64)), .second, .val (.long fa), .second, .val (.long ta), .second, .val (.long fb), .second, .val (.long gb), .second, .unset, .unset, .unset, .unset, .unset, .unset, .unset] [(.int (p6 &&& (4 : Int32)))])) _
    exact k)
  obtain ⟨tb, h_tb, pre_tb⟩ : ∃ z : Int64, ((¬ z < (0 : Int64) ∧ ¬ (4294967295 : Int64) < z)) ∧ ∀ t, Steps p.tables e below (s₁.setTop (mkF m 69 #[.val (.long p1), .second, .val (.long p2), .second, .val (.long p3), .second, .val (.long p4), .second, .val (.long p5), .second, .val (.int p6), .val (.long (4294967295 : Int64)), .second, .val (.long fa), .second, .val (.long ta), .second, .val (.long fb), .second, .val (.long gb), .second, .unset, .unset, .unset, .unset, .unset, .unset, .unset] [(.long z)])) t → Steps p.tables e below (s₁.setTop (entryFrame m #[(.long p1), (.long p2), (.long p3), (.long p4), (.long p5), (.int p6)] maxLocals)) t := by
    by_cases hB : (p6 &&& (4 : Int32)) = 0
    · skip
      have pre10 : ∀ t, Steps p.tables e below (s₁.setTop (mkF m 69 #[.val (.long p1), .second, .val (.long p2), .second, .val (.long p3), .second, .val (.long p4), .second, .val (.long p5), .second, .val (.int p6), .val (.long (4294967295 : Int64)), .second, .val (.long fa), .second, .val (.long ta), .second, .val (.long fb), .second, .val (.long gb), .second, .unset, .unset, .unset, .unset, .unset, .unset, .unset] [(.long (XT.ushrL p4 (32 : Int32)))])) t → Steps p.tables e below (s₁.setTop (entryFrame m #[(.long p1), (.long p2), (.long p3), (.long p4), (.long p5), (.int p6)] maxLocals)) t := fun t k => pre9 t (by
        show Steps p.tables e below (s₁.setTop (mkF m 56 #[.val (.long p1), .second, .val (.long p2), .second, .val (.long p3), .second, .val (.long p4), .second, .val (.long p5), .second, .val (.int p6), .val (.long (4294967295 : Int64)), .second, .val (.long fa), .second, .val (.long ta), .second, .val (.long fb), .second, .val (.long gb), .second, .unset, .unset, .unset, .unset, .unset, .unset, .unset] [(.int (p6 &&& (4 : Int32)))])) _
        refine XS.ifYes X0.here hx rfl (pc0 := 56) (pc' := 64) rfl (hb hby at_56) rfl (XT.i0_eq_t hB) (by decide) (by decide) ?_
        show Steps p.tables e below (s₁.setTop (mkF m 64 #[.val (.long p1), .second, .val (.long p2), .second, .val (.long p3), .second, .val (.long p4), .second, .val (.long p5), .second, .val (.int p6), .val (.long (4294967295 : Int64)), .second, .val (.long fa), .second, .val (.long ta), .second, .val (.long fb), .second, .val (.long gb), .second, .unset, .unset, .unset, .unset, .unset, .unset, .unset] [])) _
        refine XT.lload X0.here hx rfl (hb hby at_64) rfl ?_
        show Steps p.tables e below (s₁.setTop (mkF m 66 #[.val (.long p1), .second, .val (.long p2), .second, .val (.long p3), .second, .val (.long p4), .second, .val (.long p5), .second, .val (.int p6), .val (.long (4294967295 : Int64)), .second, .val (.long fa), .second, .val (.long ta), .second, .val (.long fb), .second, .val (.long gb), .second, .unset, .unset, .unset, .unset, .unset, .unset, .unset] [(.long p4)])) _
        refine XS.bipush X0.here hx rfl (hb hby at_66) ?_
        show Steps p.tables e below (s₁.setTop (mkF m 68 #[.val (.long p1), .second, .val (.long p2), .second, .val (.long p3), .second, .val (.long p4), .second, .val (.long p5), .second, .val (.int p6), .val (.long (4294967295 : Int64)), .second, .val (.long fa), .second, .val (.long ta), .second, .val (.long fb), .second, .val (.long gb), .second, .unset, .unset, .unset, .unset, .unset, .unset, .unset] [(.int (32 : Int32)), (.long p4)])) _
        refine XT.lushr X0.here hx rfl (hb hby at_68) rfl ?_
        show Steps p.tables e below (s₁.setTop (mkF m 69 #[.val (.long p1), .second, .val (.long p2), .second, .val (.long p3), .second, .val (.long p4), .second, .val (.long p5), .second, .val (.int p6), .val (.long (4294967295 : Int64)), .second, .val (.long fa), .second, .val (.long ta), .second, .val (.long fb), .second, .val (.long gb), .second, .unset, .unset, .unset, .unset, .unset, .unset, .unset] [(.long (XT.ushrL p4 (32 : Int32)))])) _
        exact k)
      exact ⟨(XT.ushrL p4 (32 : Int32)), own_shr p4, pre10⟩
    · skip
      have pre11 : ∀ t, Steps p.tables e below (s₁.setTop (mkF m 69 #[.val (.long p1), .second, .val (.long p2), .second, .val (.long p3), .second, .val (.long p4), .second, .val (.long p5), .second, .val (.int p6), .val (.long (4294967295 : Int64)), .second, .val (.long fa), .second, .val (.long ta), .second, .val (.long fb), .second, .val (.long gb), .second, .unset, .unset, .unset, .unset, .unset, .unset, .unset] [(.long ta)])) t → Steps p.tables e below (s₁.setTop (entryFrame m #[(.long p1), (.long p2), (.long p3), (.long p4), (.long p5), (.int p6)] maxLocals)) t := fun t k => pre9 t (by
        show Steps p.tables e below (s₁.setTop (mkF m 56 #[.val (.long p1), .second, .val (.long p2), .second, .val (.long p3), .second, .val (.long p4), .second, .val (.long p5), .second, .val (.int p6), .val (.long (4294967295 : Int64)), .second, .val (.long fa), .second, .val (.long ta), .second, .val (.long fb), .second, .val (.long gb), .second, .unset, .unset, .unset, .unset, .unset, .unset, .unset] [(.int (p6 &&& (4 : Int32)))])) _
        refine XS.ifNo X0.here hx rfl (hb hby at_56) rfl (XT.i0_eq_f hB) ?_
        show Steps p.tables e below (s₁.setTop (mkF m 59 #[.val (.long p1), .second, .val (.long p2), .second, .val (.long p3), .second, .val (.long p4), .second, .val (.long p5), .second, .val (.int p6), .val (.long (4294967295 : Int64)), .second, .val (.long fa), .second, .val (.long ta), .second, .val (.long fb), .second, .val (.long gb), .second, .unset, .unset, .unset, .unset, .unset, .unset, .unset] [])) _
        refine XT.lload X0.here hx rfl (hb hby at_59) rfl ?_
        show Steps p.tables e below (s₁.setTop (mkF m 61 #[.val (.long p1), .second, .val (.long p2), .second, .val (.long p3), .second, .val (.long p4), .second, .val (.long p5), .second, .val (.int p6), .val (.long (4294967295 : Int64)), .second, .val (.long fa), .second, .val (.long ta), .second, .val (.long fb), .second, .val (.long gb), .second, .unset, .unset, .unset, .unset, .unset, .unset, .unset] [(.long ta)])) _
        refine XS.goto X0.here hx rfl (pc0 := 61) (pc' := 69) rfl (hb hby at_61) (by decide) (by decide) ?_
        show Steps p.tables e below (s₁.setTop (mkF m 69 #[.val (.long p1), .second, .val (.long p2), .second, .val (.long p3), .second, .val (.long p4), .second, .val (.long p5), .second, .val (.int p6), .val (.long (4294967295 : Int64)), .second, .val (.long fa), .second, .val (.long ta), .second, .val (.long fb), .second, .val (.long gb), .second, .unset, .unset, .unset, .unset, .unset, .unset, .unset] [(.long ta)])) _
        exact k)
      exact ⟨ta, b_ta, pre11⟩
  have pre12 : ∀ t, Steps p.tables e below (s₁.setTop (mkF m 71 #[.val (.long p1), .second, .val (.long p2), .second, .val (.long p3), .second, .val (.long p4), .second, .val (.long p5), .second, .val (.int p6), .val (.long (4294967295 : Int64)), .second, .val (.long fa), .second, .val (.long ta), .second, .val (.long fb), .second, .val (.long gb), .second, .val (.long tb), .second, .unset, .unset, .unset, .unset, .unset] [])) t → Steps p.tables e below (s₁.setTop (entryFrame m #[(.long p1), (.long p2), (.long p3), (.long p4), (.long p5), (.int p6)] maxLocals)) t := fun t k => pre_tb t (by
    show Steps p.tables e below (s₁.setTop (mkF m 69 #[.val (.long p1), .second, .val (.long p2), .second, .val (.long p3), .second, .val (.long p4), .second, .val (.long p5), .second, .val (.int p6), .val (.long (4294967295 : Int64)), .second, .val (.long fa), .second, .val (.long ta), .second, .val (.long fb), .second, .val (.long gb), .second, .unset, .unset, .unset, .unset, .unset, .unset, .unset] [(.long tb)])) _
    refine XT.lstore X0.here hx rfl (hb hby at_69) rfl (l' := #[.val (.long p1), .second, .val (.long p2), .second, .val (.long p3), .second, .val (.long p4), .second, .val (.long p5), .second, .val (.int p6), .val (.long (4294967295 : Int64)), .second, .val (.long fa), .second, .val (.long ta), .second, .val (.long fb), .second, .val (.long gb), .second, .val (.long tb), .second, .unset, .unset, .unset, .unset, .unset]) rfl ?_
    show Steps p.tables e below (s₁.setTop (mkF m 71 #[.val (.long p1), .second, .val (.long p2), .second, .val (.long p3), .second, .val (.long p4), .second, .val (.long p5), .second, .val (.int p6), .val (.long (4294967295 : Int64)), .second, .val (.long fa), .second, .val (.long ta), .second, .val (.long fb), .second, .val (.long gb), .second, .val (.long tb), .second, .unset, .unset, .unset, .unset, .unset] [])) _
    exact k)
  exact rs_0_1 l Z a0 hw ws p1 p2 p3 p4 p5 p6 ar cA h0 n0 fa ta fb gb tb Bd hZ hown hml h0 X0 e0 N0 Z0 S0 kp0 pre12 K2 b_fa b_ta h_fb h_tb HS HA HZ HC
theorem own_cache {s : State} {args : Array Value} (r1 : (Jvm.Cond.initializedFor "java/lang/Long$LongCache" "cache" "[Ljava/lang/Long;").value args s none s [] = some true) (r2 : (Jvm.Cond.arrayOf (Jvm.Term.static "java/lang/Long$LongCache" "cache" "[Ljava/lang/Long;") (.object "java/lang/Long")).value args s none s [] = some true) (r3 : (Jvm.Cond.exactly (Jvm.Term.static "java/lang/Long$LongCache" "cache" "[Ljava/lang/Long;") "[Ljava/lang/Long;").value args s none s [] = some true)
    (r4 : (Jvm.Cond.eq (Jvm.Term.length (Jvm.Term.static "java/lang/Long$LongCache" "cache" "[Ljava/lang/Long;")) (Jvm.Term.int 256)).value args s none s [] = some true) {d : Jvm.Cond} (r5 : (Jvm.Cond.all (Jvm.Term.static "java/lang/Long$LongCache" "cache" "[Ljava/lang/Long;") (.and (.exactly (.elem (Jvm.Term.static "java/lang/Long$LongCache" "cache" "[Ljava/lang/Long;") (.index 0)) "java/lang/Long") d)).value args s none s [] = some true) :
    ∃ (ar : Addr) (cA : Cell), Sta s s.heap "java/lang/Long$LongCache" "cache" "[Ljava/lang/Long;" (.ref ar) ∧ Arr s s.heap ar cA (.object "java/lang/Long") ∧ 256 ≤ cA.slots.size ∧ ∀ i, i < 256 → ∃ b, cA.slots[i]? = some (.ref b) ∧ Exa s s.heap b "java/lang/Long" := by
  generalize hT : Jvm.Term.static "java/lang/Long$LongCache" "cache" "[Ljava/lang/Long;" = T at r2 r3 r4 r5
  obtain ⟨ar, ev⟩ := exa_v r3
  obtain ⟨cA, HA⟩ := Arr.start ev r2
  have hlen := Cond.eq_int (Cond.before_iff.mpr r4) (rfl : (Jvm.Term.int 256).eval args s none [] s = some (.int 256))
  obtain ⟨ar', D, ev', harr, hsz⟩ := Term.length_spec hlen
  have har : ar = ar' := Value.ref.inj (Option.some.inj (ev.symm.trans ev'))
  subst har
  have hD := (State.arrayAt?_spec harr).1
  have hcD : cA = D := Option.some.inj (HA.1.symm.trans hD)
  subst hcD
  have h256 : 256 ≤ cA.slots.size := by
    refine Nat.le_of_not_lt fun q => ?_
    have q1 := len_toInt (show cA.slots.size < 2 ^ 31 by omega)
    have q2 : (256 : Int32) = cA.slots.size.toInt32 := Value.int.inj hsz
    rw [← q2] at q1
    have q3 : (256 : Int32).toInt = 256 := by decide
    omega
  refine ⟨ar, cA, ?_, HA, h256, fun i hi => ?_⟩
  · subst hT; exact Sta.start ev (Or.inl (Cond.before_iff.mpr r1))
  · have q := (and_e (Cond.all_elim ev harr r5 i (by omega))).1
    obtain ⟨b, c, cell, k, y1, y2, y3, y4, y5, y6, y7⟩ := Cond.exactly_spec (beq_iff_eq.mpr q : (Jvm.Cond.exactly (.elem T (.index 0)) "java/lang/Long").holds args s none s [i] = true)
    obtain ⟨a2, j, c2, z1, z2, z3, z4, z5⟩ := Term.elem_spec y1
    have z1' : T.eval args s none [i] s = some (.ref ar) := by subst hT; exact ev
    have ha2 : ar = a2 := Value.ref.inj (Option.some.inj (z1'.symm.trans z1))
    subst ha2
    have hc2 : cA = c2 := Option.some.inj (harr.symm.trans z3)
    subst hc2
    have z2' : (Jvm.Term.index 0).eval args s none [i] s = some (.int i.toInt32) := rfl
    have hj : i.toInt32 = j := Value.int.inj (Option.some.inj (z2'.symm.trans z2))
    subst hj
    have n1 : i.toInt32.toNatClampNeg = i := by
      have := len_toInt (show i < 2 ^ 31 by omega)
      show i.toInt32.toInt.toNat = i
      omega
    rw [n1] at z5
    subst y6
    exact ⟨b, z5, cell, k, y3, y2, y4, y5, y7⟩
set_option maxRecDepth 65536 in
set_option maxHeartbeats 40000000 in
theorem comes_1 {Post : Tables → Env → Array Value → State → Outcome → State → Prop} (hpost : ∀ tb e args s v u, (limb_1_1.after args s (.returned v) u = true ∧ limb_1_2.after args s (.returned v) u = true ∧ True) → ReturnedEndW s (.returned v) u (Jvm.fieldLocs frame_1_writes args s ++ Jvm.arrayLocs frame_1_arrays args s ++ Jvm.staticLocs frame_1_statics s) 24 2176 → Post tb e args s (.returned v) u) :
    ArmFor flags0 classFile x code maxLocals ret World_1 tables_1 room_1 Calls_1 rest_1 Pre_1 Post := by
  intro l hfl _ _ p e ha hc hk s m args below hf hA hF happ hP
  obtain ⟨hcalls, hrest, hpre⟩ := hP
  obtain ⟨-, -, -, hnamed, -, -, -, hat⟩ := (Spec.applies_iff hf).mp happ
  obtain ⟨hg, hn⟩ := and_e (Cond.before_iff.mp (show (Jvm.Cond.and given_1 narrow_1).before args s = true from hpre))
  obtain ⟨gc, hg⟩ := and_e hg
  obtain ⟨gi0, hg⟩ := and_e hg
  obtain ⟨gi1, hg⟩ := and_e hg
  obtain ⟨gi2, hg⟩ := and_e hg
  obtain ⟨gi3, hg⟩ := and_e hg
  obtain ⟨gi4, hg⟩ := and_e hg
  have gi5 := hg
  obtain ⟨w0, w1, w2, w3, w4, w5, rfl⟩ : ∃ w0 w1 w2 w3 w4 w5 : Value, args = #[w0, w1, w2, w3, w4, w5] := by
    have hs : args.size = 6 := by simpa [Cond.value, given_1] using gc
    obtain ⟨L⟩ := args
    match L, hs with
    | [w0, w1, w2, w3, w4, w5], _ => exact ⟨w0, w1, w2, w3, w4, w5, rfl⟩
  have hw := fun d (hd : d ∈ tables_1) => atoms_spec (ws := Jvm.Cond.code x code maxLocals ret :: tables_1) hat d (List.mem_cons_of_mem _ hd)
  have hfit : Fit s := fun {y c} hc i hi => by
    obtain ⟨ha, rfl⟩ := Array.getElem?_eq_some_iff.mp hc
    have q := List.all_eq_true.mp ((Array.all_eq_true_iff_forall_mem.mp hF) _ (Array.getElem_mem ha)) i (List.mem_range.mpr hi)
    simpa [Array.getElem?_eq_getElem hi] using q
  obtain ⟨i0, ei0⟩ := isL_v gi0
  obtain rfl : w0 = (.long i0) := Option.some.inj ei0
  obtain ⟨i1, ei1⟩ := isL_v gi1
  obtain rfl : w1 = (.long i1) := Option.some.inj ei1
  obtain ⟨i2, ei2⟩ := isL_v gi2
  obtain rfl : w2 = (.long i2) := Option.some.inj ei2
  obtain ⟨i3, ei3⟩ := isL_v gi3
  obtain rfl : w3 = (.long i3) := Option.some.inj ei3
  obtain ⟨i4, ei4⟩ := isL_v gi4
  obtain rfl : w4 = (.long i4) := Option.some.inj ei4
  obtain ⟨i5, ei5⟩ := is_v gi5
  obtain rfl : w5 = (.int i5) := Option.some.inj ei5
  have hr0 := Cond.before_iff.mp (show rest_1_c.before _ s = true from hrest)
  obtain ⟨r0, hr0⟩ := and_e hr0
  obtain ⟨r1, hr0⟩ := and_e hr0
  obtain ⟨r2, hr0⟩ := and_e hr0
  obtain ⟨r3, hr0⟩ := and_e hr0
  obtain ⟨r4, hr0⟩ := and_e hr0
  obtain ⟨r5, hr0⟩ := and_e hr0
  obtain ⟨ar, cA, HS, HA, HZ, HC⟩ := own_cache r1 r2 r3 r4 r5
  obtain ⟨n, o, h1, h2, h3, _, L, rfl, ⟨rfl, N⟩, hq⟩ := rm_0 l s _ hw tables_1 i0 i1 i2 i3 i4 i5 ar cA s.heap s.heap.size (Nat.le_refl _) HS HA HZ HC p e ha hc hk s m _ below hf ((Spec.applies_iff_loose hf).mp happ).1 ⟨rfl, State.Warmed39.refl s, rfl⟩ trivial
  refine ⟨n, _, h1, h2, h3, hpost _ _ _ _ _ _ ⟨Cond.after_iff.mpr rfl, Cond.after_iff.mpr (eq_i res_at (Term.int_eval (1)) rfl), trivial⟩ ⟨hq.1, hq.2.1, hq.2.2.1, (hq.2.2.2.sift fun y hy => Or.inr (N y hy)).mono (by decide) (by decide)⟩⟩
theorem main_1_1 : Claimed_1_1 := comes_1 fun _ _ _ _ _ _ h hF => ⟨h.1, hF⟩
theorem main_1_2 : Claimed_1_2 := comes_1 fun _ _ _ _ _ _ h hF => ⟨h.2.1, hF⟩
end Jvm.Pilot.@@N@@
namespace Jvm.Pilot.@@N@@
open Jvm Jvm.ClassFile Sem Op Lib Jvm.Free Jvm.Stand Jvm.Pilot.@@N@@.Jvm.D
/-! MADE BY PROGRAM (witnessworld.py) out of the Statement's table words and the real class files: 19 classes; the members and pool entries that the words name. The judged class is class 1, her method 1. -/
namespace start1
open Jvm.ClassFile
def u (s : String) : CpInfo := .utf8 (stringToUtf16 s)
/-- a pool by its gaps: so many unusable entries, then the entry; so many at the end -/
def gap : Nat → List CpInfo → List CpInfo
  | 0, r => r
  | n + 1, r => .unusable :: gap n r
def poolList (es : List (Nat × CpInfo)) (last : Nat) : List CpInfo := es.foldr (fun e r => gap e.1 (e.2 :: r)) (gap last [])
def pool (es : List (Nat × CpInfo)) (last : Nat) : Array CpInfo := ⟨poolList es last⟩
def fileOf (pool : Array CpInfo) (this : Nat) (attrs : Array Attribute := #[]) (ms : Array MethodInfo := #[]) (fl : Nat := 33) (sup : Nat := 0) (ifs : Array Nat := #[]) (fds : Array FieldInfo := #[]) : ClassFile where
  minorVersion := 0
  majorVersion := 65
  constantPool := pool
  accessFlags := fl
  thisClass := this
  superClass := sup
  interfaces := ifs
  fields := fds
  methods := ms
  attributes := attrs
def plain (name : String) (sup : Option ClassId) : Class where
  name := name
  kind := .ordinary
  loader := none
  accessFlags := 33
  super := sup
  interfaces := #[]
  cf := none
  fields := #[]
  methods := #[]
  instanceTypes := #[]
  staticTypes := #[]
  resolved := #[]
  callSites := []
  init := .initialized
  statics := none
  mirror := none

def pool0 : Array CpInfo := pool [(5, u "<init>"), (0, u "()V"), (1, .class_ 10), (1, u "java/lang/Object")] 113

def k0c0 : Code := { maxStack := 0, maxLocals := 1, code := object_method_1_code, exceptionTable := #[], attributes := #[] }
def k0m0 : Method := { name := "<init>", desc := "()V", sig := { parameters := [], returnType := none }, accessFlags := 1, code := some k0c0 }
/-- java/lang/Object -/
def k0 : Class := { plain "java/lang/Object" none with
  accessFlags := 33
  interfaces := #[]
  cf := some (fileOf pool0 8 #[] #[{ accessFlags := 1, nameIndex := 5, descriptorIndex := 6, attributes := #[] }] 33 0 #[] #[])
  fields := #[]
  methods := #[k0m0]
  instanceTypes := #[]
  staticTypes := #[]
  resolved := Array.replicate 124 none
  statics := none }

def pool1 : Array CpInfo := pool [(2, .class_ 4), (1, u "java/lang/Object"), (0, u "<init>"), (0, u "()V"), (0, .long 4294967295), (1, .class_ 10), (0, u "com/example/terse_broker/tersebroker/codec/Handshake"), (0, .methodref 9 12), (0, .nameAndType 5 13), (0, u "(JJJ)V"), (0, .methodref 15 16), (0, .class_ 17), (0, .nameAndType 18 19), (0, u "java/lang/Long"), (0, u "valueOf"), (0, u "(J)Ljava/lang/Long;"), (0, .methodref 9 21), (0, .nameAndType 22 23), (0, u "equals"), (0, u "(Ljava/lang/Object;)Z"), (0, .class_ 25), (0, u "com/example/terse_broker/tersebroker/codec/HandshakeEqualsPinLaw"), (2, u "law"), (0, u "(JJJJJI)Z")] 3

def k1m0 : Method := { name := "<init>", desc := "()V", sig := { parameters := [], returnType := none }, accessFlags := 1, code := none }
def k1c1 : Code := { maxStack := 8, maxLocals := 28, code := code, exceptionTable := #[], attributes := #[] }
def k1m1 : Method := { name := "law", desc := "(JJJJJI)Z", sig := { parameters := [.long, .long, .long, .long, .long, .int], returnType := some .boolean }, accessFlags := 9, code := some k1c1 }
/-- com/example/terse_broker/tersebroker/codec/HandshakeEqualsPinLaw -/
def k1 : Class := { plain "com/example/terse_broker/tersebroker/codec/HandshakeEqualsPinLaw" (some 0) with
  accessFlags := 49
  interfaces := #[]
  cf := some (fileOf pool1 24 #[] #[{ accessFlags := 1, nameIndex := 5, descriptorIndex := 6, attributes := #[] }, { accessFlags := 9, nameIndex := 28, descriptorIndex := 29, attributes := #[] }] 49 2 #[] #[])
  fields := #[]
  methods := #[k1m0, k1m1]
  instanceTypes := #[]
  staticTypes := #[]
  resolved := Array.replicate 33 none
  statics := none }

def pool2 : Array CpInfo := pool [(1, .methodref 2 3), (0, .class_ 4), (0, .nameAndType 5 6), (0, u "java/lang/Object"), (0, u "<init>"), (0, u "()V"), (0, .class_ 8), (0, u "java/lang/Record")] 13

def k2c0 : Code := { maxStack := 1, maxLocals := 1, code := jdk_30_method_1_code, exceptionTable := #[], attributes := #[] }
def k2m0 : Method := { name := "<init>", desc := "()V", sig := { parameters := [], returnType := none }, accessFlags := 4, code := some k2c0 }
/-- java/lang/Record -/
def k2 : Class := { plain "java/lang/Record" (some 0) with
  accessFlags := 1057
  interfaces := #[]
  cf := some (fileOf pool2 7 #[] #[{ accessFlags := 4, nameIndex := 5, descriptorIndex := 6, attributes := #[] }] 1057 2 #[] #[])
  fields := #[]
  methods := #[k2m0]
  instanceTypes := #[]
  staticTypes := #[]
  resolved := Array.replicate 22 none
  statics := none }

def pool3 : Array CpInfo := pool [(5, .methodref 6 7), (0, .class_ 8), (0, .nameAndType 9 10), (0, u "java/lang/Record"), (0, u "<init>"), (0, u "()V"), (0, .string 12), (0, u "max-fragment-size"), (0, .methodref 14 15), (0, .class_ 16), (0, .nameAndType 17 18), (0, u "com/example/terse_broker/tersebroker/codec/Handshake"), (0, u "requireFourBytes"), (0, u "(Ljava/lang/String;J)V"), (0, .string 20), (0, u "ack-timeout-millis"), (0, .fieldref 14 22), (0, .nameAndType 23 24), (0, u "maxFragmentSize"), (0, u "J"), (0, .fieldref 14 26), (0, .nameAndType 27 24), (0, u "maxAggregateSize"), (0, .fieldref 14 29), (0, .nameAndType 30 24), (0, u "ackTimeoutMillis"), (32, u "(JJJ)V"), (5, .long 4294967295), (26, u "SIZE"), (0, u "I"), (2, u "SUGGESTED_FRAGMENT_SIZE"), (2, u "SMALLEST_FRAGMENT_SIZE"), (9, u "equals"), (0, u "(Ljava/lang/Object;)Z")] 37

def k3c0 : Code := { maxStack := 3, maxLocals := 7, code := prog_64_method_1_code, exceptionTable := #[], attributes := #[] }
def k3m0 : Method := { name := "<init>", desc := "(JJJ)V", sig := { parameters := [.long, .long, .long], returnType := none }, accessFlags := 1, code := some k3c0 }
def k3c1 : Code := { maxStack := 5, maxLocals := 3, code := prog_64_method_4_code, exceptionTable := #[], attributes := #[] }
def k3m1 : Method := { name := "requireFourBytes", desc := "(Ljava/lang/String;J)V", sig := { parameters := [(.object "java/lang/String"), .long], returnType := none }, accessFlags := 10, code := some k3c1 }
def k3c2 : Code := { maxStack := 4, maxLocals := 3, code := prog_64_method_5_code, exceptionTable := #[], attributes := #[] }
def k3m2 : Method := { name := "equals", desc := "(Ljava/lang/Object;)Z", sig := { parameters := [(.object "java/lang/Object")], returnType := some .boolean }, accessFlags := 1, code := some k3c2 }
/-- com/example/terse_broker/tersebroker/codec/Handshake -/
def k3 : Class := { plain "com/example/terse_broker/tersebroker/codec/Handshake" (some 2) with
  accessFlags := 49
  interfaces := #[]
  cf := some (fileOf pool3 14 #[] #[{ accessFlags := 1, nameIndex := 9, descriptorIndex := 63, attributes := #[] }, { accessFlags := 10, nameIndex := 17, descriptorIndex := 18, attributes := #[] }, { accessFlags := 1, nameIndex := 113, descriptorIndex := 114, attributes := #[] }] 49 6 #[] #[{ accessFlags := 18, nameIndex := 23, descriptorIndex := 24, attributes := #[] }, { accessFlags := 18, nameIndex := 27, descriptorIndex := 24, attributes := #[] }, { accessFlags := 18, nameIndex := 30, descriptorIndex := 24, attributes := #[] }, { accessFlags := 25, nameIndex := 96, descriptorIndex := 97, attributes := #[] }, { accessFlags := 25, nameIndex := 100, descriptorIndex := 24, attributes := #[] }, { accessFlags := 25, nameIndex := 103, descriptorIndex := 24, attributes := #[] }])
  fields := #[{ name := "maxFragmentSize", type := .long, accessFlags := 18, slot := 0, constantValue := 0 }, { name := "maxAggregateSize", type := .long, accessFlags := 18, slot := 1, constantValue := 0 }, { name := "ackTimeoutMillis", type := .long, accessFlags := 18, slot := 2, constantValue := 0 }, { name := "SIZE", type := .int, accessFlags := 25, slot := 0, constantValue := 0 }, { name := "SUGGESTED_FRAGMENT_SIZE", type := .long, accessFlags := 25, slot := 1, constantValue := 0 }, { name := "SMALLEST_FRAGMENT_SIZE", type := .long, accessFlags := 25, slot := 2, constantValue := 0 }]
  methods := #[k3m0, k3m1, k3m2]
  instanceTypes := #[.long, .long, .long]
  staticTypes := #[.int, .long, .long]
  resolved := Array.replicate 152 none
  statics := none }

def pool4 : Array CpInfo := pool [(1, .class_ 2), (0, u "java/io/Serializable"), (0, .class_ 4), (0, u "java/lang/Object")] 2

/-- java/io/Serializable -/
def k4 : Class := { plain "java/io/Serializable" (some 0) with
  accessFlags := 1537
  interfaces := #[]
  cf := some (fileOf pool4 1 #[] #[] 1537 3 #[] #[])
  fields := #[]
  methods := #[]
  instanceTypes := #[]
  staticTypes := #[]
  resolved := Array.replicate 7 none
  statics := none }

def pool5 : Array CpInfo := pool [(1, .class_ 2), (0, u "java/lang/Comparable"), (0, .class_ 4), (0, u "java/lang/Object")] 7

/-- java/lang/Comparable -/
def k5 : Class := { plain "java/lang/Comparable" (some 0) with
  accessFlags := 1537
  interfaces := #[]
  cf := some (fileOf pool5 1 #[] #[] 1537 3 #[] #[])
  fields := #[]
  methods := #[]
  instanceTypes := #[]
  staticTypes := #[]
  resolved := Array.replicate 12 none
  statics := none }

def pool6 : Array CpInfo := pool [(2, .class_ 4), (1, u "java/lang/CharSequence"), (42, .class_ 48), (0, u "java/lang/CharSequence$1CodePointIterator"), (10, .class_ 60), (0, u "java/lang/CharSequence$1CharIterator"), (5, .class_ 67), (0, u "java/lang/Object")] 63

/-- java/lang/CharSequence -/
def k6 : Class := { plain "java/lang/CharSequence" (some 0) with
  accessFlags := 1537
  interfaces := #[]
  cf := some (fileOf pool6 2 #[.nestMembers #[47, 59]] #[] 1537 66 #[] #[])
  fields := #[]
  methods := #[]
  instanceTypes := #[]
  staticTypes := #[]
  resolved := Array.replicate 131 none
  statics := none }

def pool7 : Array CpInfo := pool [(1, .class_ 2), (0, u "java/lang/constant/Constable"), (0, .class_ 4), (0, u "java/lang/Object")] 6

/-- java/lang/constant/Constable -/
def k7 : Class := { plain "java/lang/constant/Constable" (some 0) with
  accessFlags := 1537
  interfaces := #[]
  cf := some (fileOf pool7 1 #[] #[] 1537 3 #[] #[])
  fields := #[]
  methods := #[]
  instanceTypes := #[]
  staticTypes := #[]
  resolved := Array.replicate 11 none
  statics := none }

def pool8 : Array CpInfo := pool [(1, .class_ 2), (0, u "java/lang/constant/ConstantDesc"), (0, .class_ 4), (0, u "java/lang/Object")] 32

/-- java/lang/constant/ConstantDesc -/
def k8 : Class := { plain "java/lang/constant/ConstantDesc" (some 0) with
  accessFlags := 1537
  interfaces := #[]
  cf := some (fileOf pool8 1 #[] #[] 1537 3 #[] #[])
  fields := #[]
  methods := #[]
  instanceTypes := #[]
  staticTypes := #[]
  resolved := Array.replicate 37 none
  statics := none }

def pool9 : Array CpInfo := pool [(2, .class_ 4), (1, u "java/lang/Object"), (0, u "<init>"), (0, u "()V"), (3, .class_ 12), (1, u "java/lang/String"), (0, u "value"), (0, u "[B"), (2, u "coder"), (0, u "B"), (2, u "hash"), (0, u "I"), (2, u "hashIsZero"), (0, u "Z"), (13, u "COMPACT_STRINGS"), (534, .class_ 576), (0, u "java/lang/CharSequence"), (22, u "CASE_INSENSITIVE_ORDER"), (0, u "Ljava/util/Comparator;"), (500, u "serialPersistentFields"), (0, u "[Ljava/io/ObjectStreamField;"), (0, .class_ 1104), (0, u "java/lang/String$CaseInsensitiveComparator"), (1, .class_ 1107), (0, u "java/io/Serializable"), (0, .class_ 1109), (0, u "java/lang/Comparable"), (0, .class_ 1111), (0, u "java/lang/constant/Constable"), (0, .class_ 1113), (0, u "java/lang/constant/ConstantDesc"), (2, u "serialVersionUID"), (0, u "J"), (3, u "REPL"), (0, u "C"), (2, u "LATIN1"), (1, u "UTF16")] 323

def k9m0 : Method := { name := "<init>", desc := "()V", sig := { parameters := [], returnType := none }, accessFlags := 1, code := none }
/-- java/lang/String -/
def k9 : Class := { plain "java/lang/String" (some 0) with
  accessFlags := 49
  interfaces := #[4, 5, 6, 7, 8]
  cf := some (fileOf pool9 10 #[.nestMembers #[1103]] #[{ accessFlags := 1, nameIndex := 5, descriptorIndex := 6, attributes := #[] }] 49 2 #[1106, 1108, 575, 1110, 1112] #[{ accessFlags := 18, nameIndex := 13, descriptorIndex := 14, attributes := #[] }, { accessFlags := 18, nameIndex := 17, descriptorIndex := 18, attributes := #[] }, { accessFlags := 2, nameIndex := 21, descriptorIndex := 22, attributes := #[] }, { accessFlags := 2, nameIndex := 25, descriptorIndex := 26, attributes := #[] }, { accessFlags := 26, nameIndex := 1116, descriptorIndex := 1117, attributes := #[] }, { accessFlags := 24, nameIndex := 40, descriptorIndex := 26, attributes := #[] }, { accessFlags := 26, nameIndex := 1101, descriptorIndex := 1102, attributes := #[] }, { accessFlags := 26, nameIndex := 1121, descriptorIndex := 1122, attributes := #[] }, { accessFlags := 25, nameIndex := 599, descriptorIndex := 600, attributes := #[] }, { accessFlags := 24, nameIndex := 1125, descriptorIndex := 18, attributes := #[] }, { accessFlags := 24, nameIndex := 1127, descriptorIndex := 18, attributes := #[] }])
  fields := #[{ name := "value", type := (.array .byte), accessFlags := 18, slot := 0, constantValue := 0 }, { name := "coder", type := .byte, accessFlags := 18, slot := 1, constantValue := 0 }, { name := "hash", type := .int, accessFlags := 2, slot := 2, constantValue := 0 }, { name := "hashIsZero", type := .boolean, accessFlags := 2, slot := 3, constantValue := 0 }, { name := "serialVersionUID", type := .long, accessFlags := 26, slot := 0, constantValue := 0 }, { name := "COMPACT_STRINGS", type := .boolean, accessFlags := 24, slot := 1, constantValue := 0 }, { name := "serialPersistentFields", type := (.array (.object "java/io/ObjectStreamField")), accessFlags := 26, slot := 2, constantValue := 0 }, { name := "REPL", type := .char, accessFlags := 26, slot := 3, constantValue := 0 }, { name := "CASE_INSENSITIVE_ORDER", type := (.object "java/util/Comparator"), accessFlags := 25, slot := 4, constantValue := 0 }, { name := "LATIN1", type := .byte, accessFlags := 24, slot := 5, constantValue := 0 }, { name := "UTF16", type := .byte, accessFlags := 24, slot := 6, constantValue := 0 }]
  methods := #[k9m0]
  instanceTypes := #[(.array .byte), .byte, .int, .boolean]
  staticTypes := #[.long, .boolean, (.array (.object "java/io/ObjectStreamField")), .char, (.object "java/util/Comparator"), .byte, .byte]
  resolved := Array.replicate 1451 none
  statics := none }

def pool10 : Array CpInfo := pool [(1, .methodref 2 3), (0, .class_ 4), (0, .nameAndType 5 6), (0, u "java/lang/Object"), (0, u "<init>"), (0, u "()V"), (1, .class_ 10), (1, u "java/lang/Number"), (2, .class_ 14), (0, u "java/io/Serializable"), (0, u "serialVersionUID"), (0, u "J")] 20

def k10c0 : Code := { maxStack := 1, maxLocals := 1, code := jdk_18_method_1_code, exceptionTable := #[], attributes := #[] }
def k10m0 : Method := { name := "<init>", desc := "()V", sig := { parameters := [], returnType := none }, accessFlags := 1, code := some k10c0 }
/-- java/lang/Number -/
def k10 : Class := { plain "java/lang/Number" (some 0) with
  accessFlags := 1057
  interfaces := #[4]
  cf := some (fileOf pool10 8 #[] #[{ accessFlags := 1, nameIndex := 5, descriptorIndex := 6, attributes := #[] }] 1057 2 #[13] #[{ accessFlags := 26, nameIndex := 15, descriptorIndex := 16, attributes := #[] }])
  fields := #[{ name := "serialVersionUID", type := .long, accessFlags := 26, slot := 0, constantValue := 0 }]
  methods := #[k10m0]
  instanceTypes := #[]
  staticTypes := #[.long]
  resolved := Array.replicate 37 none
  statics := none }

def pool11 : Array CpInfo := pool [(1, .class_ 2), (0, u "java/lang/Long"), (55, .nameAndType 59 60), (0, u "<init>"), (0, u "()V"), (24, u "valueOf"), (143, u "(J)Ljava/lang/Long;"), (0, .long 18446744073709551488), (1, .long 127), (1, .fieldref 235 236), (0, .class_ 237), (0, .nameAndType 238 239), (0, u "java/lang/Long$LongCache"), (0, u "cache"), (0, u "[Ljava/lang/Long;"), (0, .methodref 1 241), (0, .nameAndType 59 242), (0, u "(J)V"), (27, .methodref 271 58), (0, .class_ 272), (0, u "java/lang/Number"), (0, .fieldref 1 274), (0, .nameAndType 275 276), (0, u "value"), (0, u "J"), (84, u "TYPE"), (0, u "Ljava/lang/Class;"), (0, .class_ 364), (0, u "java/lang/Comparable"), (0, .class_ 366), (0, u "java/lang/constant/Constable"), (0, .class_ 368), (0, u "java/lang/constant/ConstantDesc"), (0, u "MIN_VALUE"), (1, u "MAX_VALUE"), (4, u "SIZE"), (0, u "I"), (1, u "BYTES"), (1, u "serialVersionUID")] 142

def k11c0 : Code := { maxStack := 4, maxLocals := 3, code := jdk_35_method_24_code, exceptionTable := #[], attributes := #[] }
def k11m0 : Method := { name := "valueOf", desc := "(J)Ljava/lang/Long;", sig := { parameters := [.long], returnType := some (.object "java/lang/Long") }, accessFlags := 9, code := some k11c0 }
def k11c1 : Code := { maxStack := 3, maxLocals := 3, code := jdk_35_method_26_code, exceptionTable := #[], attributes := #[] }
def k11m1 : Method := { name := "<init>", desc := "(J)V", sig := { parameters := [.long], returnType := none }, accessFlags := 1, code := some k11c1 }
/-- java/lang/Long -/
def k11 : Class := { plain "java/lang/Long" (some 10) with
  accessFlags := 49
  interfaces := #[5, 7, 8]
  cf := some (fileOf pool11 1 #[.nestMembers #[235]] #[{ accessFlags := 9, nameIndex := 85, descriptorIndex := 229, attributes := #[] }, { accessFlags := 1, nameIndex := 59, descriptorIndex := 242, attributes := #[] }] 49 271 #[363, 365, 367] #[{ accessFlags := 25, nameIndex := 369, descriptorIndex := 276, attributes := #[] }, { accessFlags := 25, nameIndex := 371, descriptorIndex := 276, attributes := #[] }, { accessFlags := 25, nameIndex := 361, descriptorIndex := 362, attributes := #[] }, { accessFlags := 18, nameIndex := 275, descriptorIndex := 276, attributes := #[] }, { accessFlags := 25, nameIndex := 376, descriptorIndex := 377, attributes := #[] }, { accessFlags := 25, nameIndex := 379, descriptorIndex := 377, attributes := #[] }, { accessFlags := 26, nameIndex := 381, descriptorIndex := 276, attributes := #[] }])
  fields := #[{ name := "MIN_VALUE", type := .long, accessFlags := 25, slot := 0, constantValue := 0 }, { name := "MAX_VALUE", type := .long, accessFlags := 25, slot := 1, constantValue := 0 }, { name := "TYPE", type := (.object "java/lang/Class"), accessFlags := 25, slot := 2, constantValue := 0 }, { name := "value", type := .long, accessFlags := 18, slot := 0, constantValue := 0 }, { name := "SIZE", type := .int, accessFlags := 25, slot := 3, constantValue := 0 }, { name := "BYTES", type := .int, accessFlags := 25, slot := 4, constantValue := 0 }, { name := "serialVersionUID", type := .long, accessFlags := 26, slot := 5, constantValue := 0 }]
  methods := #[k11m0, k11m1]
  instanceTypes := #[.long]
  staticTypes := #[.long, .long, (.object "java/lang/Class"), .int, .int, .long]
  resolved := Array.replicate 524 none
  statics := none }

def pool12 : Array CpInfo := pool [(2, .class_ 4), (1, u "java/lang/Object"), (0, u "<init>"), (0, u "()V"), (0, .class_ 8), (0, u "java/lang/Long"), (7, .class_ 18), (1, u "java/lang/Long$LongCache"), (0, u "$assertionsDisabled"), (0, u "Z"), (8, u "archivedCache"), (0, u "[Ljava/lang/Long;"), (7, u "cache")] 24

def k12m0 : Method := { name := "<init>", desc := "()V", sig := { parameters := [], returnType := none }, accessFlags := 2, code := none }
/-- java/lang/Long$LongCache -/
def k12 : Class := { plain "java/lang/Long$LongCache" (some 0) with
  accessFlags := 48
  interfaces := #[]
  cf := some (fileOf pool12 16 #[.nestHost 7] #[{ accessFlags := 2, nameIndex := 5, descriptorIndex := 6, attributes := #[] }] 48 2 #[] #[{ accessFlags := 24, nameIndex := 38, descriptorIndex := 30, attributes := #[] }, { accessFlags := 8, nameIndex := 29, descriptorIndex := 30, attributes := #[] }, { accessFlags := 4120, nameIndex := 19, descriptorIndex := 20, attributes := #[] }])
  fields := #[{ name := "cache", type := (.array (.object "java/lang/Long")), accessFlags := 24, slot := 0, constantValue := 0 }, { name := "archivedCache", type := (.array (.object "java/lang/Long")), accessFlags := 8, slot := 1, constantValue := 0 }, { name := "$assertionsDisabled", type := .boolean, accessFlags := 4120, slot := 2, constantValue := 0 }]
  methods := #[k12m0]
  instanceTypes := #[]
  staticTypes := #[(.array (.object "java/lang/Long")), (.array (.object "java/lang/Long")), .boolean]
  resolved := Array.replicate 63 none
  statics := some 0 }

def pool13 : Array CpInfo := pool [(1, u "java/lang/Cloneable"), (0, .class_ 1), (0, u "java/lang/Object"), (0, .class_ 3)] 3

/-- java/lang/Cloneable -/
def k13 : Class := { plain "java/lang/Cloneable" (some 0) with
  accessFlags := 1537
  interfaces := #[]
  cf := some (fileOf pool13 2 #[] #[] 1537 4 #[] #[])
  fields := #[]
  methods := #[]
  instanceTypes := #[]
  staticTypes := #[]
  resolved := Array.replicate 8 none
  statics := none }

/-- the primitive byte -/
def k14 : Class := { plain "byte" none with kind := .primitive 'B', accessFlags := 0x411 }
/-- [B -/
def k15 : Class := { plain "[B" (some 0) with kind := .array 14 .byte, interfaces := #[13, 4], accessFlags := 1041 }

/-- the primitive int -/
def k16 : Class := { plain "int" none with kind := .primitive 'I', accessFlags := 0x411 }
/-- [I -/
def k17 : Class := { plain "[I" (some 0) with kind := .array 16 .int, interfaces := #[13, 4], accessFlags := 1041 }

/-- [Ljava/lang/Long; -/
def k18 : Class := { plain "[Ljava/lang/Long;" (some 0) with kind := .array 11 (.object "java/lang/Long"), interfaces := #[13, 4], accessFlags := 1041 }

def heap : Heap := #[{ cls := 12, slots := #[.ref 1, .null, .int 0], vm := .statics 12 },
  { cls := 18, slots := #[.ref 2, .ref 3, .ref 4, .ref 5, .ref 6, .ref 7, .ref 8, .ref 9, .ref 10, .ref 11, .ref 12, .ref 13, .ref 14, .ref 15, .ref 16, .ref 17, .ref 18, .ref 19, .ref 20, .ref 21, .ref 22, .ref 23, .ref 24, .ref 25, .ref 26, .ref 27, .ref 28, .ref 29, .ref 30, .ref 31, .ref 32, .ref 33, .ref 34, .ref 35, .ref 36, .ref 37, .ref 38, .ref 39, .ref 40, .ref 41, .ref 42, .ref 43, .ref 44, .ref 45, .ref 46, .ref 47, .ref 48, .ref 49, .ref 50, .ref 51, .ref 52, .ref 53, .ref 54, .ref 55, .ref 56, .ref 57, .ref 58, .ref 59, .ref 60, .ref 61, .ref 62, .ref 63, .ref 64, .ref 65, .ref 66, .ref 67, .ref 68, .ref 69, .ref 70, .ref 71, .ref 72, .ref 73, .ref 74, .ref 75, .ref 76, .ref 77, .ref 78, .ref 79, .ref 80, .ref 81, .ref 82, .ref 83, .ref 84, .ref 85, .ref 86, .ref 87, .ref 88, .ref 89, .ref 90, .ref 91, .ref 92, .ref 93, .ref 94, .ref 95, .ref 96, .ref 97, .ref 98, .ref 99, .ref 100, .ref 101, .ref 102, .ref 103, .ref 104, .ref 105, .ref 106, .ref 107, .ref 108, .ref 109, .ref 110, .ref 111, .ref 112, .ref 113, .ref 114, .ref 115, .ref 116, .ref 117, .ref 118, .ref 119, .ref 120, .ref 121, .ref 122, .ref 123, .ref 124, .ref 125, .ref 126, .ref 127, .ref 128, .ref 129, .ref 130, .ref 131, .ref 132, .ref 133, .ref 134, .ref 135, .ref 136, .ref 137, .ref 138, .ref 139, .ref 140, .ref 141, .ref 142, .ref 143, .ref 144, .ref 145, .ref 146, .ref 147, .ref 148, .ref 149, .ref 150, .ref 151, .ref 152, .ref 153, .ref 154, .ref 155, .ref 156, .ref 157, .ref 158, .ref 159, .ref 160, .ref 161, .ref 162, .ref 163, .ref 164, .ref 165, .ref 166, .ref 167, .ref 168, .ref 169, .ref 170, .ref 171, .ref 172, .ref 173, .ref 174, .ref 175, .ref 176, .ref 177, .ref 178, .ref 179, .ref 180, .ref 181, .ref 182, .ref 183, .ref 184, .ref 185, .ref 186, .ref 187, .ref 188, .ref 189, .ref 190, .ref 191, .ref 192, .ref 193, .ref 194, .ref 195, .ref 196, .ref 197, .ref 198, .ref 199, .ref 200, .ref 201, .ref 202, .ref 203, .ref 204, .ref 205, .ref 206, .ref 207, .ref 208, .ref 209, .ref 210, .ref 211, .ref 212, .ref 213, .ref 214, .ref 215, .ref 216, .ref 217, .ref 218, .ref 219, .ref 220, .ref 221, .ref 222, .ref 223, .ref 224, .ref 225, .ref 226, .ref 227, .ref 228, .ref 229, .ref 230, .ref 231, .ref 232, .ref 233, .ref 234, .ref 235, .ref 236, .ref 237, .ref 238, .ref 239, .ref 240, .ref 241, .ref 242, .ref 243, .ref 244, .ref 245, .ref 246, .ref 247, .ref 248, .ref 249, .ref 250, .ref 251, .ref 252, .ref 253, .ref 254, .ref 255, .ref 256, .ref 257], vm := .none },
  { cls := 11, slots := #[.long (-128)], vm := .none },
  { cls := 11, slots := #[.long (-127)], vm := .none },
  { cls := 11, slots := #[.long (-126)], vm := .none },
  { cls := 11, slots := #[.long (-125)], vm := .none },
  { cls := 11, slots := #[.long (-124)], vm := .none },
  { cls := 11, slots := #[.long (-123)], vm := .none },
  { cls := 11, slots := #[.long (-122)], vm := .none },
  { cls := 11, slots := #[.long (-121)], vm := .none },
  { cls := 11, slots := #[.long (-120)], vm := .none },
  { cls := 11, slots := #[.long (-119)], vm := .none },
  { cls := 11, slots := #[.long (-118)], vm := .none },
  { cls := 11, slots := #[.long (-117)], vm := .none },
  { cls := 11, slots := #[.long (-116)], vm := .none },
  { cls := 11, slots := #[.long (-115)], vm := .none },
  { cls := 11, slots := #[.long (-114)], vm := .none },
  { cls := 11, slots := #[.long (-113)], vm := .none },
  { cls := 11, slots := #[.long (-112)], vm := .none },
  { cls := 11, slots := #[.long (-111)], vm := .none },
  { cls := 11, slots := #[.long (-110)], vm := .none },
  { cls := 11, slots := #[.long (-109)], vm := .none },
  { cls := 11, slots := #[.long (-108)], vm := .none },
  { cls := 11, slots := #[.long (-107)], vm := .none },
  { cls := 11, slots := #[.long (-106)], vm := .none },
  { cls := 11, slots := #[.long (-105)], vm := .none },
  { cls := 11, slots := #[.long (-104)], vm := .none },
  { cls := 11, slots := #[.long (-103)], vm := .none },
  { cls := 11, slots := #[.long (-102)], vm := .none },
  { cls := 11, slots := #[.long (-101)], vm := .none },
  { cls := 11, slots := #[.long (-100)], vm := .none },
  { cls := 11, slots := #[.long (-99)], vm := .none },
  { cls := 11, slots := #[.long (-98)], vm := .none },
  { cls := 11, slots := #[.long (-97)], vm := .none },
  { cls := 11, slots := #[.long (-96)], vm := .none },
  { cls := 11, slots := #[.long (-95)], vm := .none },
  { cls := 11, slots := #[.long (-94)], vm := .none },
  { cls := 11, slots := #[.long (-93)], vm := .none },
  { cls := 11, slots := #[.long (-92)], vm := .none },
  { cls := 11, slots := #[.long (-91)], vm := .none },
  { cls := 11, slots := #[.long (-90)], vm := .none },
  { cls := 11, slots := #[.long (-89)], vm := .none },
  { cls := 11, slots := #[.long (-88)], vm := .none },
  { cls := 11, slots := #[.long (-87)], vm := .none },
  { cls := 11, slots := #[.long (-86)], vm := .none },
  { cls := 11, slots := #[.long (-85)], vm := .none },
  { cls := 11, slots := #[.long (-84)], vm := .none },
  { cls := 11, slots := #[.long (-83)], vm := .none },
  { cls := 11, slots := #[.long (-82)], vm := .none },
  { cls := 11, slots := #[.long (-81)], vm := .none },
  { cls := 11, slots := #[.long (-80)], vm := .none },
  { cls := 11, slots := #[.long (-79)], vm := .none },
  { cls := 11, slots := #[.long (-78)], vm := .none },
  { cls := 11, slots := #[.long (-77)], vm := .none },
  { cls := 11, slots := #[.long (-76)], vm := .none },
  { cls := 11, slots := #[.long (-75)], vm := .none },
  { cls := 11, slots := #[.long (-74)], vm := .none },
  { cls := 11, slots := #[.long (-73)], vm := .none },
  { cls := 11, slots := #[.long (-72)], vm := .none },
  { cls := 11, slots := #[.long (-71)], vm := .none },
  { cls := 11, slots := #[.long (-70)], vm := .none },
  { cls := 11, slots := #[.long (-69)], vm := .none },
  { cls := 11, slots := #[.long (-68)], vm := .none },
  { cls := 11, slots := #[.long (-67)], vm := .none },
  { cls := 11, slots := #[.long (-66)], vm := .none },
  { cls := 11, slots := #[.long (-65)], vm := .none },
  { cls := 11, slots := #[.long (-64)], vm := .none },
  { cls := 11, slots := #[.long (-63)], vm := .none },
  { cls := 11, slots := #[.long (-62)], vm := .none },
  { cls := 11, slots := #[.long (-61)], vm := .none },
  { cls := 11, slots := #[.long (-60)], vm := .none },
  { cls := 11, slots := #[.long (-59)], vm := .none },
  { cls := 11, slots := #[.long (-58)], vm := .none },
  { cls := 11, slots := #[.long (-57)], vm := .none },
  { cls := 11, slots := #[.long (-56)], vm := .none },
  { cls := 11, slots := #[.long (-55)], vm := .none },
  { cls := 11, slots := #[.long (-54)], vm := .none },
  { cls := 11, slots := #[.long (-53)], vm := .none },
  { cls := 11, slots := #[.long (-52)], vm := .none },
  { cls := 11, slots := #[.long (-51)], vm := .none },
  { cls := 11, slots := #[.long (-50)], vm := .none },
  { cls := 11, slots := #[.long (-49)], vm := .none },
  { cls := 11, slots := #[.long (-48)], vm := .none },
  { cls := 11, slots := #[.long (-47)], vm := .none },
  { cls := 11, slots := #[.long (-46)], vm := .none },
  { cls := 11, slots := #[.long (-45)], vm := .none },
  { cls := 11, slots := #[.long (-44)], vm := .none },
  { cls := 11, slots := #[.long (-43)], vm := .none },
  { cls := 11, slots := #[.long (-42)], vm := .none },
  { cls := 11, slots := #[.long (-41)], vm := .none },
  { cls := 11, slots := #[.long (-40)], vm := .none },
  { cls := 11, slots := #[.long (-39)], vm := .none },
  { cls := 11, slots := #[.long (-38)], vm := .none },
  { cls := 11, slots := #[.long (-37)], vm := .none },
  { cls := 11, slots := #[.long (-36)], vm := .none },
  { cls := 11, slots := #[.long (-35)], vm := .none },
  { cls := 11, slots := #[.long (-34)], vm := .none },
  { cls := 11, slots := #[.long (-33)], vm := .none },
  { cls := 11, slots := #[.long (-32)], vm := .none },
  { cls := 11, slots := #[.long (-31)], vm := .none },
  { cls := 11, slots := #[.long (-30)], vm := .none },
  { cls := 11, slots := #[.long (-29)], vm := .none },
  { cls := 11, slots := #[.long (-28)], vm := .none },
  { cls := 11, slots := #[.long (-27)], vm := .none },
  { cls := 11, slots := #[.long (-26)], vm := .none },
  { cls := 11, slots := #[.long (-25)], vm := .none },
  { cls := 11, slots := #[.long (-24)], vm := .none },
  { cls := 11, slots := #[.long (-23)], vm := .none },
  { cls := 11, slots := #[.long (-22)], vm := .none },
  { cls := 11, slots := #[.long (-21)], vm := .none },
  { cls := 11, slots := #[.long (-20)], vm := .none },
  { cls := 11, slots := #[.long (-19)], vm := .none },
  { cls := 11, slots := #[.long (-18)], vm := .none },
  { cls := 11, slots := #[.long (-17)], vm := .none },
  { cls := 11, slots := #[.long (-16)], vm := .none },
  { cls := 11, slots := #[.long (-15)], vm := .none },
  { cls := 11, slots := #[.long (-14)], vm := .none },
  { cls := 11, slots := #[.long (-13)], vm := .none },
  { cls := 11, slots := #[.long (-12)], vm := .none },
  { cls := 11, slots := #[.long (-11)], vm := .none },
  { cls := 11, slots := #[.long (-10)], vm := .none },
  { cls := 11, slots := #[.long (-9)], vm := .none },
  { cls := 11, slots := #[.long (-8)], vm := .none },
  { cls := 11, slots := #[.long (-7)], vm := .none },
  { cls := 11, slots := #[.long (-6)], vm := .none },
  { cls := 11, slots := #[.long (-5)], vm := .none },
  { cls := 11, slots := #[.long (-4)], vm := .none },
  { cls := 11, slots := #[.long (-3)], vm := .none },
  { cls := 11, slots := #[.long (-2)], vm := .none },
  { cls := 11, slots := #[.long (-1)], vm := .none },
  { cls := 11, slots := #[.long 0], vm := .none },
  { cls := 11, slots := #[.long 1], vm := .none },
  { cls := 11, slots := #[.long 2], vm := .none },
  { cls := 11, slots := #[.long 3], vm := .none },
  { cls := 11, slots := #[.long 4], vm := .none },
  { cls := 11, slots := #[.long 5], vm := .none },
  { cls := 11, slots := #[.long 6], vm := .none },
  { cls := 11, slots := #[.long 7], vm := .none },
  { cls := 11, slots := #[.long 8], vm := .none },
  { cls := 11, slots := #[.long 9], vm := .none },
  { cls := 11, slots := #[.long 10], vm := .none },
  { cls := 11, slots := #[.long 11], vm := .none },
  { cls := 11, slots := #[.long 12], vm := .none },
  { cls := 11, slots := #[.long 13], vm := .none },
  { cls := 11, slots := #[.long 14], vm := .none },
  { cls := 11, slots := #[.long 15], vm := .none },
  { cls := 11, slots := #[.long 16], vm := .none },
  { cls := 11, slots := #[.long 17], vm := .none },
  { cls := 11, slots := #[.long 18], vm := .none },
  { cls := 11, slots := #[.long 19], vm := .none },
  { cls := 11, slots := #[.long 20], vm := .none },
  { cls := 11, slots := #[.long 21], vm := .none },
  { cls := 11, slots := #[.long 22], vm := .none },
  { cls := 11, slots := #[.long 23], vm := .none },
  { cls := 11, slots := #[.long 24], vm := .none },
  { cls := 11, slots := #[.long 25], vm := .none },
  { cls := 11, slots := #[.long 26], vm := .none },
  { cls := 11, slots := #[.long 27], vm := .none },
  { cls := 11, slots := #[.long 28], vm := .none },
  { cls := 11, slots := #[.long 29], vm := .none },
  { cls := 11, slots := #[.long 30], vm := .none },
  { cls := 11, slots := #[.long 31], vm := .none },
  { cls := 11, slots := #[.long 32], vm := .none },
  { cls := 11, slots := #[.long 33], vm := .none },
  { cls := 11, slots := #[.long 34], vm := .none },
  { cls := 11, slots := #[.long 35], vm := .none },
  { cls := 11, slots := #[.long 36], vm := .none },
  { cls := 11, slots := #[.long 37], vm := .none },
  { cls := 11, slots := #[.long 38], vm := .none },
  { cls := 11, slots := #[.long 39], vm := .none },
  { cls := 11, slots := #[.long 40], vm := .none },
  { cls := 11, slots := #[.long 41], vm := .none },
  { cls := 11, slots := #[.long 42], vm := .none },
  { cls := 11, slots := #[.long 43], vm := .none },
  { cls := 11, slots := #[.long 44], vm := .none },
  { cls := 11, slots := #[.long 45], vm := .none },
  { cls := 11, slots := #[.long 46], vm := .none },
  { cls := 11, slots := #[.long 47], vm := .none },
  { cls := 11, slots := #[.long 48], vm := .none },
  { cls := 11, slots := #[.long 49], vm := .none },
  { cls := 11, slots := #[.long 50], vm := .none },
  { cls := 11, slots := #[.long 51], vm := .none },
  { cls := 11, slots := #[.long 52], vm := .none },
  { cls := 11, slots := #[.long 53], vm := .none },
  { cls := 11, slots := #[.long 54], vm := .none },
  { cls := 11, slots := #[.long 55], vm := .none },
  { cls := 11, slots := #[.long 56], vm := .none },
  { cls := 11, slots := #[.long 57], vm := .none },
  { cls := 11, slots := #[.long 58], vm := .none },
  { cls := 11, slots := #[.long 59], vm := .none },
  { cls := 11, slots := #[.long 60], vm := .none },
  { cls := 11, slots := #[.long 61], vm := .none },
  { cls := 11, slots := #[.long 62], vm := .none },
  { cls := 11, slots := #[.long 63], vm := .none },
  { cls := 11, slots := #[.long 64], vm := .none },
  { cls := 11, slots := #[.long 65], vm := .none },
  { cls := 11, slots := #[.long 66], vm := .none },
  { cls := 11, slots := #[.long 67], vm := .none },
  { cls := 11, slots := #[.long 68], vm := .none },
  { cls := 11, slots := #[.long 69], vm := .none },
  { cls := 11, slots := #[.long 70], vm := .none },
  { cls := 11, slots := #[.long 71], vm := .none },
  { cls := 11, slots := #[.long 72], vm := .none },
  { cls := 11, slots := #[.long 73], vm := .none },
  { cls := 11, slots := #[.long 74], vm := .none },
  { cls := 11, slots := #[.long 75], vm := .none },
  { cls := 11, slots := #[.long 76], vm := .none },
  { cls := 11, slots := #[.long 77], vm := .none },
  { cls := 11, slots := #[.long 78], vm := .none },
  { cls := 11, slots := #[.long 79], vm := .none },
  { cls := 11, slots := #[.long 80], vm := .none },
  { cls := 11, slots := #[.long 81], vm := .none },
  { cls := 11, slots := #[.long 82], vm := .none },
  { cls := 11, slots := #[.long 83], vm := .none },
  { cls := 11, slots := #[.long 84], vm := .none },
  { cls := 11, slots := #[.long 85], vm := .none },
  { cls := 11, slots := #[.long 86], vm := .none },
  { cls := 11, slots := #[.long 87], vm := .none },
  { cls := 11, slots := #[.long 88], vm := .none },
  { cls := 11, slots := #[.long 89], vm := .none },
  { cls := 11, slots := #[.long 90], vm := .none },
  { cls := 11, slots := #[.long 91], vm := .none },
  { cls := 11, slots := #[.long 92], vm := .none },
  { cls := 11, slots := #[.long 93], vm := .none },
  { cls := 11, slots := #[.long 94], vm := .none },
  { cls := 11, slots := #[.long 95], vm := .none },
  { cls := 11, slots := #[.long 96], vm := .none },
  { cls := 11, slots := #[.long 97], vm := .none },
  { cls := 11, slots := #[.long 98], vm := .none },
  { cls := 11, slots := #[.long 99], vm := .none },
  { cls := 11, slots := #[.long 100], vm := .none },
  { cls := 11, slots := #[.long 101], vm := .none },
  { cls := 11, slots := #[.long 102], vm := .none },
  { cls := 11, slots := #[.long 103], vm := .none },
  { cls := 11, slots := #[.long 104], vm := .none },
  { cls := 11, slots := #[.long 105], vm := .none },
  { cls := 11, slots := #[.long 106], vm := .none },
  { cls := 11, slots := #[.long 107], vm := .none },
  { cls := 11, slots := #[.long 108], vm := .none },
  { cls := 11, slots := #[.long 109], vm := .none },
  { cls := 11, slots := #[.long 110], vm := .none },
  { cls := 11, slots := #[.long 111], vm := .none },
  { cls := 11, slots := #[.long 112], vm := .none },
  { cls := 11, slots := #[.long 113], vm := .none },
  { cls := 11, slots := #[.long 114], vm := .none },
  { cls := 11, slots := #[.long 115], vm := .none },
  { cls := 11, slots := #[.long 116], vm := .none },
  { cls := 11, slots := #[.long 117], vm := .none },
  { cls := 11, slots := #[.long 118], vm := .none },
  { cls := 11, slots := #[.long 119], vm := .none },
  { cls := 11, slots := #[.long 120], vm := .none },
  { cls := 11, slots := #[.long 121], vm := .none },
  { cls := 11, slots := #[.long 122], vm := .none },
  { cls := 11, slots := #[.long 123], vm := .none },
  { cls := 11, slots := #[.long 124], vm := .none },
  { cls := 11, slots := #[.long 125], vm := .none },
  { cls := 11, slots := #[.long 126], vm := .none },
  { cls := 11, slots := #[.long 127], vm := .none }]
def classes : Array Class := #[k0, k1, k2, k3, k4, k5, k6, k7, k8, k9, k10, k11, k12, k13, k14, k15, k16, k17, k18]
def interned : List (Array UInt16 × Addr) := []
def slotsUsed : Nat := 515
def theMethod : MethodId := ⟨1, 1⟩
def args0 : Array Value := #[.long 5, .long 6, .long 7, .long 8, .long 9, .int 3]
def aboutOver (below : List Frame) : State where
  vm := { classes := classes, interned := interned.toArray }
  heap := heap
  slotsUsed := slotsUsed
  threads := #[{ frames := .invoking theMethod args0 :: below }]
def below0 : List Frame := [.native { method := ⟨0, 0⟩, args := #[] }]
def about1 : State := aboutOver below0
def p0 : Program := .bare "" "" ""
def e0 : Env := launch0.env 0 0 0
theorem w_frames : about1.frames = Frame.invoking theMethod args0 :: below0 := rfl
set_option maxRecDepth 65536 in
theorem w_args : argsFit about1.vm theMethod args0 = true := by decide +kernel
set_option maxRecDepth 65536 in
theorem w_heap : heapFits about1 = true := by decide +kernel
set_option maxRecDepth 65536 in
theorem w_runnable : about1.curStatus? = some .runnable := by decide +kernel
set_option maxRecDepth 65536 in
theorem w_alone : about1.alone = true := by decide +kernel
set_option maxRecDepth 65536 in
theorem w_named : about1.methodNamed? x = some theMethod := by decide +kernel
set_option maxRecDepth 65536 in
theorem w_hears : about1.hears theMethod below0 = true := by decide +kernel
set_option maxRecDepth 65536 in
theorem w_ripe : about1.ripe theMethod args0 below0 = true := by decide +kernel
theorem w_running : about1.status = .running := rfl
set_option maxRecDepth 65536 in
theorem w_room : about1.hasRoom e0.platform room_1 = true :=
  launch0.hasRoom_least _ room_1 (by decide +kernel) (by decide +kernel) (by decide +kernel) (by decide +kernel) (by decide +kernel) (by decide +kernel)
theorem allAtoms_all (ts : List Jvm.Cond) (a : Array Jvm.Value) (st : Jvm.State) : (allAtoms ts).before a st = ts.all (fun c => c.before a st) := by
  induction ts with
  | nil => rfl
  | cons c t ih =>
    show (Jvm.Cond.and c (allAtoms t)).before a st = _
    rw [Jvm.Cond.before_and, ih, List.all_cons]
def words1 : List Jvm.Cond := Jvm.Cond.code x code maxLocals ret :: tables_1
/-- a 'code' word, met by the world's own term for the bytes: nothing is compared byte by byte -/
theorem code_word {y : MethodName} {bytes : ByteArray} {mx : Nat} {rt : Option FieldType} {a : Array Value} {s : State} {m : MethodId} {meth : Method} {c : Code} (h1 : s.methodNamed? y = some m) (h2 : s.vm.method? m = some meth) (h3 : meth.code = some c) (h4 : c.code = bytes)
    (h5 : (c.maxLocals == mx && c.exceptionTable.isEmpty && decide (c.maxStack ≤ mostOperands) && decide (meth.sig.returnType = rt) && !meth.locks && decide (parseMethodDescriptor y.desc = some meth.sig)) = true) : (Jvm.Cond.code y bytes mx rt).before a s = true := by
  simp only [Bool.and_eq_true, beq_iff_eq, Bool.not_eq_true', decide_eq_true_eq] at h5
  obtain ⟨⟨⟨⟨⟨g1, g2⟩, g3⟩, g4⟩, g5⟩, g6⟩ := h5
  simp [Cond.before, Cond.holds, Cond.value, h1, h2, h3, h4, g1, g2, g3, g4, g5, g6]
def isCode : Jvm.Cond → Bool
  | .code _ _ _ _ => true
  | _ => false
theorem all_split {L : List Jvm.Cond} {P : Jvm.Cond → Bool} (h1 : L.all (fun c => isCode c || P c) = true) (h2 : ∀ c ∈ L.filter isCode, P c = true) : L.all P = true := by
  refine List.all_eq_true.mpr fun c hc => ?_
  have h := List.all_eq_true.mp h1 c hc
  rcases Bool.eq_false_or_eq_true (isCode c) with hi | hi
  · exact h2 c (List.mem_filter.mpr ⟨hc, hi⟩)
  · simpa [hi] using h
set_option maxRecDepth 65536 in
theorem w_c0 : (Jvm.Cond.code x code maxLocals ret).before args0 about1 = true := code_word (m := ⟨1, 1⟩) (meth := k1m1) (c := k1c1) (by decide +kernel) rfl rfl rfl (by decide +kernel)
set_option maxRecDepth 65536 in
theorem w_c1 : (Jvm.Cond.code ({ cls := "com/example/terse_broker/tersebroker/codec/Handshake", name := "<init>", desc := "(JJJ)V" } : Jvm.MethodName) prog_64_method_1_code (7 : Nat) (Option.none : Option Jvm.ClassFile.FieldType)).before args0 about1 = true := code_word (m := ⟨3, 0⟩) (meth := k3m0) (c := k3c0) (by decide +kernel) rfl rfl rfl (by decide +kernel)
set_option maxRecDepth 65536 in
theorem w_c2 : (Jvm.Cond.code ({ cls := "java/lang/Record", name := "<init>", desc := "()V" } : Jvm.MethodName) jdk_30_method_1_code (1 : Nat) (Option.none : Option Jvm.ClassFile.FieldType)).before args0 about1 = true := code_word (m := ⟨2, 0⟩) (meth := k2m0) (c := k2c0) (by decide +kernel) rfl rfl rfl (by decide +kernel)
set_option maxRecDepth 65536 in
theorem w_c3 : (Jvm.Cond.code ({ cls := "java/lang/Object", name := "<init>", desc := "()V" } : Jvm.MethodName) object_method_1_code (1 : Nat) (Option.none : Option Jvm.ClassFile.FieldType)).before args0 about1 = true := code_word (m := ⟨0, 0⟩) (meth := k0m0) (c := k0c0) (by decide +kernel) rfl rfl rfl (by decide +kernel)
set_option maxRecDepth 65536 in
theorem w_c4 : (Jvm.Cond.code ({ cls := "com/example/terse_broker/tersebroker/codec/Handshake", name := "requireFourBytes", desc := "(Ljava/lang/String;J)V" } : Jvm.MethodName) prog_64_method_4_code (3 : Nat) (Option.none : Option Jvm.ClassFile.FieldType)).before args0 about1 = true := code_word (m := ⟨3, 1⟩) (meth := k3m1) (c := k3c1) (by decide +kernel) rfl rfl rfl (by decide +kernel)
set_option maxRecDepth 65536 in
theorem w_c5 : (Jvm.Cond.code ({ cls := "java/lang/Long", name := "valueOf", desc := "(J)Ljava/lang/Long;" } : Jvm.MethodName) jdk_35_method_24_code (3 : Nat) (Option.some (Jvm.ClassFile.FieldType.object "java/lang/Long"))).before args0 about1 = true := code_word (m := ⟨11, 0⟩) (meth := k11m0) (c := k11c0) (by decide +kernel) rfl rfl rfl (by decide +kernel)
set_option maxRecDepth 65536 in
theorem w_c6 : (Jvm.Cond.code ({ cls := "com/example/terse_broker/tersebroker/codec/Handshake", name := "equals", desc := "(Ljava/lang/Object;)Z" } : Jvm.MethodName) prog_64_method_5_code (3 : Nat) (Option.some Jvm.ClassFile.FieldType.boolean)).before args0 about1 = true := code_word (m := ⟨3, 2⟩) (meth := k3m2) (c := k3c2) (by decide +kernel) rfl rfl rfl (by decide +kernel)
set_option maxRecDepth 65536 in
theorem w_c7 : (Jvm.Cond.code ({ cls := "java/lang/Long", name := "<init>", desc := "(J)V" } : Jvm.MethodName) jdk_35_method_26_code (3 : Nat) (Option.none : Option Jvm.ClassFile.FieldType)).before args0 about1 = true := code_word (m := ⟨11, 1⟩) (meth := k11m1) (c := k11c1) (by decide +kernel) rfl rfl rfl (by decide +kernel)
set_option maxRecDepth 65536 in
theorem w_c8 : (Jvm.Cond.code ({ cls := "java/lang/Number", name := "<init>", desc := "()V" } : Jvm.MethodName) jdk_18_method_1_code (1 : Nat) (Option.none : Option Jvm.ClassFile.FieldType)).before args0 about1 = true := code_word (m := ⟨10, 0⟩) (meth := k10m0) (c := k10c0) (by decide +kernel) rfl rfl rfl (by decide +kernel)
def codes1 : List Jvm.Cond := [Jvm.Cond.code x code maxLocals ret, Jvm.Cond.code ({ cls := "com/example/terse_broker/tersebroker/codec/Handshake", name := "<init>", desc := "(JJJ)V" } : Jvm.MethodName) prog_64_method_1_code (7 : Nat) (Option.none : Option Jvm.ClassFile.FieldType), Jvm.Cond.code ({ cls := "java/lang/Record", name := "<init>", desc := "()V" } : Jvm.MethodName) jdk_30_method_1_code (1 : Nat) (Option.none : Option Jvm.ClassFile.FieldType), Jvm.Cond.code ({ cls := "java/lang/Object", name := "<init>", desc := "()V" } : Jvm.MethodName) object_method_1_code (1 : Nat) (Option.none : Option Jvm.ClassFile.FieldType), Jvm.Cond.code ({ cls := "com/example/terse_broker/tersebroker/codec/Handshake", name := "requireFourBytes", desc := "(Ljava/lang/String;J)V" } : Jvm.MethodName) prog_64_method_4_code (3 : Nat) (Option.none : Option Jvm.ClassFile.FieldType), Jvm.Cond.code ({ cls := "java/lang/Long", name := "valueOf", desc := "(J)Ljava/lang/Long;" } : Jvm.MethodName) jdk_35_method_24_code (3 : Nat) (Option.some (Jvm.ClassFile.FieldType.object "java/lang/Long")), Jvm.Cond.code ({ cls := "com/example/terse_broker/tersebroker/codec/Handshake", name := "equals", desc := "(Ljava/lang/Object;)Z" } : Jvm.MethodName) prog_64_method_5_code (3 : Nat) (Option.some Jvm.ClassFile.FieldType.boolean), Jvm.Cond.code ({ cls := "java/lang/Long", name := "<init>", desc := "(J)V" } : Jvm.MethodName) jdk_35_method_26_code (3 : Nat) (Option.none : Option Jvm.ClassFile.FieldType), Jvm.Cond.code ({ cls := "java/lang/Number", name := "<init>", desc := "()V" } : Jvm.MethodName) jdk_18_method_1_code (1 : Nat) (Option.none : Option Jvm.ClassFile.FieldType)]
set_option maxRecDepth 65536 in
theorem codes_eq : words1.filter isCode = codes1 := rfl
theorem w_codes : ∀ c ∈ words1.filter isCode, c.before args0 about1 = true := by
  rw [codes_eq]
  intro c hc
  simp only [codes1, List.mem_cons, List.not_mem_nil, or_false] at hc
  rcases hc with rfl | rfl | rfl | rfl | rfl | rfl | rfl | rfl | rfl
  · exact w_c0
  · exact w_c1
  · exact w_c2
  · exact w_c3
  · exact w_c4
  · exact w_c5
  · exact w_c6
  · exact w_c7
  · exact w_c8
set_option maxRecDepth 65536 in
theorem w_t1 : (words1.take 24).all (fun c => isCode c || c.before args0 about1) = true := by decide +kernel
set_option maxRecDepth 65536 in
theorem w_t2 : ((words1.drop 24).take 24).all (fun c => isCode c || c.before args0 about1) = true := by decide +kernel
set_option maxRecDepth 65536 in
theorem w_t3 : ((words1.drop 24).drop 24).all (fun c => isCode c || c.before args0 about1) = true := by decide +kernel
theorem w_tables : (allAtoms (Jvm.Cond.code x code maxLocals ret :: tables_1)).before args0 about1 = true := by
  rw [allAtoms_all]
  show words1.all (fun c => c.before args0 about1) = true
  refine all_split ?_ w_codes
  rw [← List.take_append_drop 24 words1, List.all_append, w_t1, ← List.take_append_drop 24 (words1.drop 24), List.all_append, w_t2, w_t3]
  rfl
set_option maxRecDepth 65536 in
theorem w_rest : rest_1_c.before args0 about1 = true := by decide +kernel
set_option maxRecDepth 65536 in
theorem w_case : (Jvm.Cond.and given_1 narrow_1).before args0 about1 = true := by decide +kernel
theorem w_applies : (headSpec (Jvm.Cond.code x code maxLocals ret :: tables_1) room_1).applies x e0.platform about1 = true :=
  (Spec.applies_iff w_frames).mpr ⟨w_running, w_runnable, w_alone, w_named, w_hears, w_ripe, w_room, w_tables⟩
theorem atStart : AtStart classFile x code maxLocals ret World_1 tables_1 room_1 Calls_1 rest_1 Pre_1 launch0 p0 e0 about1 theMethod args0 below0 :=
  ⟨lists_1, trivial, launch0.admits_env _ _ _, launch0.least_env, fairChoices_fair.cas, fairChoices_fair.clock, w_frames, w_args, w_heap, w_applies, trivial, w_rest, w_case⟩
end start1
theorem witness_1 : WitnessClaimed_1 := ⟨start1.p0, start1.e0, start1.about1, start1.theMethod, start1.args0, start1.below0, start1.atStart⟩
end Jvm.Pilot.@@N@@
