import JvmDerived
import JvmDerived.Pilot.@@N@@Statement
import JvmDerived.Pilot.@@N@@Code
set_option linter.unusedVariables false
set_option linter.unusedSimpArgs false
namespace Jvm.RoadKit
open Sem ClassFile Op Lib Jvm.Stand Jvm.Free Jvm.LawKit
section New
variable {p : Program} {l : Launch} {e : Env} {R : Room} {s : State} {m : MethodId} {args : Array Value} {below : List Frame} {meth : Method} {c : Code} {T : State} {locs : List Loc} {cells slots : Nat}
theorem retI (X : Stand p l e R s m args below meth c T locs cells slots) (hx : p.tables.exec = Jvm.exec) {pc : Nat} {Ls : Array Slot} {z : Int32} {rest : List Value} (hret : meth.sig.returnType = some .int) (hd : decode c.code pc = .ok (.ireturn, 1)) {fs : List Frame}
    (hl : ∀ (f : JFrame) (acts : List Action), f.method = m → f.locked = none → f.entered = [] → (doReturn e (T.setTop f) acts (some (.int z))).1 = T.setFrames fs) : Steps p.tables e below (T.setTop (mkF m pc Ls (.int z :: rest))) (T.setFrames fs) := by
  have hm' : T.vm.method? m = some meth := X.method'
  have hn : narrow .int (.int z) = .int z := rfl
  show Steps p.tables e below (T.setTop { method := m, pc := pc, locals := Ls, stack := _ :: rest, locked := none }) _
  jvm_step X.here [X.here.top, hx, hd, hm', hret, hn]
  first | (intro acts; rw [hl _ acts rfl rfl rfl]) | rw [hl _ _ rfl rfl rfl]
  exact Steps.refl _
end New
end Jvm.RoadKit
namespace Jvm.Pilot.@@N@@
open Jvm Jvm.ClassFile Sem Op Lib Jvm.Free Jvm.Stand Jvm.LawKit Jvm.RoadKit Bundle Jvm.Pilot.@@N@@.Jvm.D
theorem own_irem (x y : Int32) : x - (x / y) * y = x % y := by
  apply Int32.toInt_inj.mp
  have a := (x % y).toInt_lt; have b := (x % y).le_toInt
  rw [Int32.toInt_mod] at a b ⊢
  rw [Int32.toInt_sub, Int32.toInt_mul, Int32.toInt_div, Int.bmod_mul_bmod, Int.sub_bmod_bmod, Int.mul_comm, ← Int.tmod_def]
  exact Int.bmod_eq_of_le (by omega) (by omega)
theorem own_ns_exa {Z : State} {h : Heap} {a : Addr} {C : String} (F : Exa Z h a C) : ∀ c : Cell, h[a]? = some c → c.vm.isStatics = false := fun c hc => by
  obtain ⟨cell, k, h1, -, -, h4, -⟩ := F
  cases h1.symm.trans hc; exact h4
theorem own_sta_keep {Z : State} {h h' : Heap} {C n d : String} {v : Value} {ws : List Addr} (F : Sta Z h C n d v) (K : Keep h h' ws) (q : ∀ x ∈ ws, ∀ c : Cell, h[x]? = some c → c.vm.isStatics = false) : Sta Z h' C n d v := by
  obtain ⟨cf, i, k, f, st, cell, h1, h2, h3, h4, h5, h6, h7⟩ := F
  refine ⟨cf, i, k, f, st, cell, h1, h2, h3, h4, K.2.1 st cell h5 (fun hm => ?_), h6, h7⟩
  rw [q st hm cell h5] at h6; cases h6
theorem dac_0 : decode jdk_22_method_1_code 0 = .ok (.aload_n 0, 1) := by decide +kernel
theorem dac_1 : decode jdk_22_method_1_code 1 = .ok (.invokespecial 1, 3) := by decide +kernel
theorem dac_4 : decode jdk_22_method_1_code 4 = .ok (.return_, 1) := by decide +kernel
theorem pn_ac : plainName "java/util/AbstractCollection" = true := by first | (simp [plainName, overriddenIn]; done) | decide +kernel
theorem ef_ac (m : MethodId) (a1 : Addr) : entryFrame m #[(.ref a1)] 1 = (mkF m 0 #[.val (.ref a1)] []) := by first | (simp [entryFrame, mkF, argsToLocals, Value.category]; done) | rfl
def Q_ac (Z : State) (a1 : Addr) (h0 : Heap) (n0 : Nat) (v : Option Value) (h : Heap) (L : List Loc) : Prop := v = none ∧ Fr n0 L ∧ h = h0
set_option maxRecDepth 65536 in
set_option maxHeartbeats 40000000 in
theorem rm_ac (l : Launch) (Z : State) (a0 : Array Value) (hw : ∀ d ∈ tables_1, d.before a0 Z = true) (ws : List Jvm.Cond) (a1 : Addr) (h0 : Heap) (n0 : Nat) (Z0 : n0 ≤ h0.size)  :
    MetFree l (⟨"java/util/AbstractCollection", "<init>", "()V"⟩ : MethodName) (head1 (Jvm.Cond.code (⟨"java/util/AbstractCollection", "<init>", "()V"⟩ : MethodName) jdk_22_method_1_code 1 none :: ws) ({ frames := 1, cells := 0, slots := 0, locals := 12 } : Room)) (fun a U => a = #[(.ref a1)] ∧ Z.Warmed39 U.vm ∧ U.heap = h0) (fun _ _ _ _ _ => True) (fun _ U o U' => ∃ v L, o = .returned v ∧ Q_ac Z a1 h0 n0 v U'.heap L ∧ FrameEnd U o U' L ({ frames := 1, cells := 0, slots := 0, locals := 12 } : Room).cells ({ frames := 1, cells := 0, slots := 0, locals := 12 } : Room).slots) := by
  refine MetFree.of_bodySF (plainFor_of_name pn_ac) hisR ?_
  intro p e s m args below meth c s₁ Bd hml0 hP hK
  obtain ⟨rfl, hZ, hh⟩ := hP
  have hx := Bd.exec
  have hby := Bd.bytes
  have hml : c.maxLocals = 1 := hml0
  have hown : s.vm.findClass "java/util/AbstractCollection" = some m.cls := findClass_of_methodNamed Bd.named
  have hnm := (name_of_methodNamed Bd.named Bd.method).1
  have X0 : Stand p l e ({ frames := 1, cells := 0, slots := 0, locals := 12 } : Room) s m #[(.ref a1)] below meth c s₁ [] 0 0 := Stand.of_body Bd
  have e0 : s₁.heap = h0 := by rw [← hh, Bd.state]; rfl
  have N0 := Fr.nil n0
  have pre0 : ∀ t, Steps p.tables e below (s₁.setTop (mkF m 0 #[.val (.ref a1)] [])) t → Steps p.tables e below (s₁.setTop (entryFrame m #[(.ref a1)] 1)) t := fun t k => castTop (ef_ac m a1) k
  have pre2 : ∀ t, Steps p.tables e below (s₁.setTop (mkF m 1 #[.val (.ref a1)] [(.ref a1)])) t → Steps p.tables e below (s₁.setTop (entryFrame m #[(.ref a1)] 1)) t := fun t k => pre0 t (by
    show Steps p.tables e below (s₁.setTop (mkF m 0 #[.val (.ref a1)] [])) _
    refine XS.aloadN X0.here hx rfl (hb hby dac_0) rfl rfl ?_
    show Steps p.tables e below (s₁.setTop (mkF m 1 #[.val (.ref a1)] [(.ref a1)])) _
    exact k)
  obtain ⟨T3, X3, e3, st3⟩ := initO X0 hx hZ hown (hw _ (List.mem_of_getElem? (i := 37) rfl)) (hw _ (List.mem_of_getElem? (i := 8) rfl)) (hw _ (List.mem_of_getElem? (i := 9) rfl)) e0 (g := (mkF m 1 #[.val (.ref a1)] [(.ref a1)])) rfl (by rw [hml]; rfl) rfl (hb hby dac_1) (by decide) (W := 0) (by show 2 * 0 + _ ≤ _; exact Nat.le_of_eq rfl) (by decide)
  have pre4 : ∀ t, Steps p.tables e below (T3.setTop (mkF m 4 #[.val (.ref a1)] [])) t → Steps p.tables e below (s₁.setTop (entryFrame m #[(.ref a1)] 1)) t := fun t k => pre2 t (by
    show Steps p.tables e below (s₁.setTop (mkF m 1 #[.val (.ref a1)] [(.ref a1)])) _
    refine st3 _ ?_
    show Steps p.tables e below (T3.setTop (mkF m 4 #[.val (.ref a1)] [])) _
    exact k)
  obtain ⟨fs, hr, hrun, hended, hW, hsame⟩ := X3.leave (v := none) (fun _ => rfl)
  refine ⟨_, _, pre4 _ ?_, hrun, hended, _, _, rfl, ?_, ⟨_, rfl⟩, hW, hsame.mono (by decide) (by decide)⟩
  · exact X3.returnOut hx Bd.returns (hb hby dac_4) hr
  · show Q_ac Z a1 h0 n0 _ T3.heap _
    rw [e3]
    exact ⟨rfl, N0, rfl⟩
theorem dab_0 : decode jdk_39_method_1_code 0 = .ok (.aload_n 0, 1) := by decide +kernel
theorem dab_1 : decode jdk_39_method_1_code 1 = .ok (.invokespecial 1, 3) := by decide +kernel
theorem dab_4 : decode jdk_39_method_1_code 4 = .ok (.aload_n 0, 1) := by decide +kernel
theorem dab_5 : decode jdk_39_method_1_code 5 = .ok (.iconst 0, 1) := by decide +kernel
theorem dab_6 : decode jdk_39_method_1_code 6 = .ok (.putfield 7, 3) := by decide +kernel
theorem dab_9 : decode jdk_39_method_1_code 9 = .ok (.return_, 1) := by decide +kernel
theorem pd___V : parseMethodDescriptor "()V" = some ⟨[], none⟩ := by decide +kernel
theorem pn_ab : plainName "java/util/AbstractList" = true := by first | (simp [plainName, overriddenIn]; done) | decide +kernel
theorem ef_ab (m : MethodId) (a1 : Addr) : entryFrame m #[(.ref a1)] 1 = (mkF m 0 #[.val (.ref a1)] []) := by first | (simp [entryFrame, mkF, argsToLocals, Value.category]; done) | rfl
def Q_ab (Z : State) (a1 : Addr) (u1 u2 : Value) (h0 : Heap) (n0 : Nat) (v : Option Value) (h : Heap) (L : List Loc) : Prop := v = none ∧ Fr n0 L ∧ Keep h0 h [a1] ∧ Fld Z h a1 "java/util/ArrayList" "elementData" "[Ljava/lang/Object;" u2
set_option maxRecDepth 65536 in
set_option maxHeartbeats 40000000 in
theorem rm_ab (l : Launch) (Z : State) (a0 : Array Value) (hw : ∀ d ∈ tables_1, d.before a0 Z = true) (ws : List Jvm.Cond) (a1 : Addr) (u1 u2 : Value) (h0 : Heap) (n0 : Nat) (Z0 : n0 ≤ h0.size) (E1 : Exa Z h0 a1 "java/util/ArrayList") (F1 : Fld Z h0 a1 "java/util/AbstractList" "modCount" "I" u1) (F2 : Fld Z h0 a1 "java/util/ArrayList" "elementData" "[Ljava/lang/Object;" u2) (g_a1 : n0 ≤ a1) :
    MetFree l (⟨"java/util/AbstractList", "<init>", "()V"⟩ : MethodName) (head1 (Jvm.Cond.code (⟨"java/util/AbstractList", "<init>", "()V"⟩ : MethodName) jdk_39_method_1_code 1 none :: ws) ({ frames := 2, cells := 0, slots := 0, locals := 24 } : Room)) (fun a U => a = #[(.ref a1)] ∧ Z.Warmed39 U.vm ∧ U.heap = h0) (fun _ _ _ _ _ => True) (fun _ U o U' => ∃ v L, o = .returned v ∧ Q_ab Z a1 u1 u2 h0 n0 v U'.heap L ∧ FrameEnd U o U' L ({ frames := 2, cells := 0, slots := 0, locals := 24 } : Room).cells ({ frames := 2, cells := 0, slots := 0, locals := 24 } : Room).slots) := by
  refine MetFree.of_bodySF (plainFor_of_name pn_ab) hisR ?_
  intro p e s m args below meth c s₁ Bd hml0 hP hK
  obtain ⟨rfl, hZ, hh⟩ := hP
  have hx := Bd.exec
  have hby := Bd.bytes
  have hml : c.maxLocals = 1 := hml0
  have hown : s.vm.findClass "java/util/AbstractList" = some m.cls := findClass_of_methodNamed Bd.named
  have hnm := (name_of_methodNamed Bd.named Bd.method).1
  have X0 : Stand p l e ({ frames := 2, cells := 0, slots := 0, locals := 24 } : Room) s m #[(.ref a1)] below meth c s₁ [] 0 0 := Stand.of_body Bd
  have e0 : s₁.heap = h0 := by rw [← hh, Bd.state]; rfl
  have N0 := Fr.nil n0
  have pre0 : ∀ t, Steps p.tables e below (s₁.setTop (mkF m 0 #[.val (.ref a1)] [])) t → Steps p.tables e below (s₁.setTop (entryFrame m #[(.ref a1)] 1)) t := fun t k => castTop (ef_ab m a1) k
  have K2 : Keep h0 h0 [a1] := Keep.refl h0 [a1]
  have pre3 : ∀ t, Steps p.tables e below (s₁.setTop (mkF m 1 #[.val (.ref a1)] [(.ref a1)])) t → Steps p.tables e below (s₁.setTop (entryFrame m #[(.ref a1)] 1)) t := fun t k => pre0 t (by
    show Steps p.tables e below (s₁.setTop (mkF m 0 #[.val (.ref a1)] [])) _
    refine XS.aloadN X0.here hx rfl (hb hby dab_0) rfl rfl ?_
    show Steps p.tables e below (s₁.setTop (mkF m 1 #[.val (.ref a1)] [(.ref a1)])) _
    exact k)
  obtain ⟨_, _, ⟨T4, L4, kk4, nn4⟩, -, X4, ⟨Lc4, hQ4, l4, y4, z4⟩, st4⟩ := X0.specialBack hx (y := (⟨"java/util/AbstractCollection", "<init>", "()V"⟩ : MethodName)) rfl hown (mvT hZ (hw _ (List.mem_of_getElem? (i := 31) rfl))) (mvT hZ (hw _ (List.mem_of_getElem? (i := 32) rfl))) (mvT hZ (hw _ (List.mem_of_getElem? (i := 36) rfl))) (by decide) (backOf (W := 0) (rm_ac l Z a0 hw [] a1 h0 n0 Z0 ) hZ (hw _ (List.mem_of_getElem? (i := 36) rfl)) (hw _ (List.mem_of_getElem? (i := 35) rfl)) (by decide) (by decide)) (g := (mkF m 1 #[.val (.ref a1)] [(.ref a1)])) rfl (by rw [hml]; rfl) (Steps.refl _) (a := a1) (argsL := []) (rest := []) (lenOf pd___V rfl) rfl (by show 2 * 0 + _ ≤ _; exact Nat.le_of_eq rfl) (hb hby dab_1) (fun _ _ => ⟨rfl, e0, (by decide : 0 + 0 ≤ _), (by decide : 0 + 0 ≤ _)⟩)
  dsimp only [Pt.U, Pt.locs, Pt.cells, Pt.slots] at X4 l4 y4 z4 st4 hQ4
  subst l4 y4 z4
  obtain ⟨rfl, N4q, eq4⟩ := hQ4
  have N4 := Fr.app N0 N4q
  have pre5 : ∀ t, Steps p.tables e below (T4.setTop (mkF m 6 #[.val (.ref a1)] [(.int (0 : Int32)), (.ref a1)])) t → Steps p.tables e below (s₁.setTop (entryFrame m #[(.ref a1)] 1)) t := fun t k => pre3 t (by
    show Steps p.tables e below (s₁.setTop (mkF m 1 #[.val (.ref a1)] [(.ref a1)])) _
    refine st4.trans ?_
    show Steps p.tables e below (T4.setTop (mkF m 4 #[.val (.ref a1)] [])) _
    refine XS.aloadN X4.here hx rfl (hb hby dab_4) rfl rfl ?_
    show Steps p.tables e below (T4.setTop (mkF m 5 #[.val (.ref a1)] [(.ref a1)])) _
    refine XS.iconst X4.here hx rfl (hb hby dab_5) ?_
    show Steps p.tables e below (T4.setTop (mkF m 6 #[.val (.ref a1)] [(.int (0 : Int32)), (.ref a1)])) _
    exact k)
  obtain ⟨T6, h6, X6, e6, W6, st6⟩ := putF X4 hx hZ hown (host := "") (Or.inl (hw _ (List.mem_of_getElem? (i := 38) rfl))) Via.refl eq4 F1 E1 (Or.inl (hw _ (List.mem_of_getElem? (i := 39) rfl))) (hw _ (List.mem_of_getElem? (i := 20) rfl)) (ty := .int) (by decide) rfl rfl (g := (mkF m 6 #[.val (.ref a1)] [(.int (0 : Int32)), (.ref a1)])) rfl rfl (hb hby dab_6)
  have F6 := F1.same W6
  have N6 := Fr.snoc X6 N4 g_a1
  have f7_0 := E1.wr W6
  have f7_2 := F2.other W6 (Or.inr (slot_ne (Or.inl (hw _ (List.mem_of_getElem? (i := 42) rfl))) (Or.inl (hw _ (List.mem_of_getElem? (i := 39) rfl))) (by decide) (t := (.array (.object "java/lang/Object"))) (t' := .int) (by decide) (by decide)))
  have K8 := K2.wr W6 (Or.inl (List.mem_of_getElem? (i := 0) rfl))
  have Z6 : n0 ≤ h6.size := Nat.le_trans Z0 (Keep.of_wr W6).1
  have pre9 : ∀ t, Steps p.tables e below (T6.setTop (mkF m 9 #[.val (.ref a1)] [])) t → Steps p.tables e below (s₁.setTop (entryFrame m #[(.ref a1)] 1)) t := fun t k => pre5 t (by
    show Steps p.tables e below (T4.setTop (mkF m 6 #[.val (.ref a1)] [(.int (0 : Int32)), (.ref a1)])) _
    refine st6 _ ?_
    show Steps p.tables e below (T6.setTop (mkF m 9 #[.val (.ref a1)] [])) _
    exact k)
  obtain ⟨fs, hr, hrun, hended, hW, hsame⟩ := X6.leave (v := none) (fun _ => rfl)
  refine ⟨_, _, pre9 _ ?_, hrun, hended, _, _, rfl, ?_, ⟨_, rfl⟩, hW, hsame.mono (by decide) (by decide)⟩
  · exact X6.returnOut hx Bd.returns (hb hby dab_9) hr
  · show Q_ab Z a1 u1 u2 h0 n0 _ T6.heap _
    rw [e6]
    exact ⟨rfl, N6, K8, f7_2⟩
theorem dal_0 : decode jdk_38_method_2_code 0 = .ok (.aload_n 0, 1) := by decide +kernel
theorem dal_1 : decode jdk_38_method_2_code 1 = .ok (.invokespecial 1, 3) := by decide +kernel
theorem dal_4 : decode jdk_38_method_2_code 4 = .ok (.aload_n 0, 1) := by decide +kernel
theorem dal_5 : decode jdk_38_method_2_code 5 = .ok (.getstatic 39, 3) := by decide +kernel
theorem dal_8 : decode jdk_38_method_2_code 8 = .ok (.putfield 9, 3) := by decide +kernel
theorem dal_11 : decode jdk_38_method_2_code 11 = .ok (.return_, 1) := by decide +kernel
theorem pn_al : plainName "java/util/ArrayList" = true := by first | (simp [plainName, overriddenIn]; done) | decide +kernel
theorem ef_al (m : MethodId) (a1 : Addr) : entryFrame m #[(.ref a1)] 1 = (mkF m 0 #[.val (.ref a1)] []) := by first | (simp [entryFrame, mkF, argsToLocals, Value.category]; done) | rfl
def Q_al (Z : State) (a1 : Addr) (w3 : Addr) (u1 u2 : Value) (h0 : Heap) (n0 : Nat) (v : Option Value) (h : Heap) (L : List Loc) : Prop := v = none ∧ Fr n0 L ∧ Keep h0 h [a1]
set_option maxRecDepth 65536 in
set_option maxHeartbeats 40000000 in
theorem rm_al (l : Launch) (Z : State) (a0 : Array Value) (hw : ∀ d ∈ tables_1, d.before a0 Z = true) (ws : List Jvm.Cond) (a1 : Addr) (w3 : Addr) (u1 u2 : Value) (h0 : Heap) (n0 : Nat) (Z0 : n0 ≤ h0.size) (S1 : Sta Z h0 "java/util/ArrayList" "DEFAULTCAPACITY_EMPTY_ELEMENTDATA" "[Ljava/lang/Object;" (.ref w3)) (E1 : Exa Z h0 a1 "java/util/ArrayList") (F1 : Fld Z h0 a1 "java/util/AbstractList" "modCount" "I" u1) (F2 : Fld Z h0 a1 "java/util/ArrayList" "elementData" "[Ljava/lang/Object;" u2) (g_a1 : n0 ≤ a1) :
    MetFree l (⟨"java/util/ArrayList", "<init>", "()V"⟩ : MethodName) (head1 (Jvm.Cond.code (⟨"java/util/ArrayList", "<init>", "()V"⟩ : MethodName) jdk_38_method_2_code 1 none :: ws) ({ frames := 3, cells := 0, slots := 0, locals := 36 } : Room)) (fun a U => a = #[(.ref a1)] ∧ Z.Warmed39 U.vm ∧ U.heap = h0) (fun _ _ _ _ _ => True) (fun _ U o U' => ∃ v L, o = .returned v ∧ Q_al Z a1 w3 u1 u2 h0 n0 v U'.heap L ∧ FrameEnd U o U' L ({ frames := 3, cells := 0, slots := 0, locals := 36 } : Room).cells ({ frames := 3, cells := 0, slots := 0, locals := 36 } : Room).slots) := by
  refine MetFree.of_bodySF (plainFor_of_name pn_al) hisR ?_
  intro p e s m args below meth c s₁ Bd hml0 hP hK
  obtain ⟨rfl, hZ, hh⟩ := hP
  have hx := Bd.exec
  have hby := Bd.bytes
  have hml : c.maxLocals = 1 := hml0
  have hown : s.vm.findClass "java/util/ArrayList" = some m.cls := findClass_of_methodNamed Bd.named
  have hnm := (name_of_methodNamed Bd.named Bd.method).1
  have X0 : Stand p l e ({ frames := 3, cells := 0, slots := 0, locals := 36 } : Room) s m #[(.ref a1)] below meth c s₁ [] 0 0 := Stand.of_body Bd
  have e0 : s₁.heap = h0 := by rw [← hh, Bd.state]; rfl
  have N0 := Fr.nil n0
  have pre0 : ∀ t, Steps p.tables e below (s₁.setTop (mkF m 0 #[.val (.ref a1)] [])) t → Steps p.tables e below (s₁.setTop (entryFrame m #[(.ref a1)] 1)) t := fun t k => castTop (ef_al m a1) k
  have K2 : Keep h0 h0 [a1] := Keep.refl h0 [a1]
  have pre3 : ∀ t, Steps p.tables e below (s₁.setTop (mkF m 1 #[.val (.ref a1)] [(.ref a1)])) t → Steps p.tables e below (s₁.setTop (entryFrame m #[(.ref a1)] 1)) t := fun t k => pre0 t (by
    show Steps p.tables e below (s₁.setTop (mkF m 0 #[.val (.ref a1)] [])) _
    refine XS.aloadN X0.here hx rfl (hb hby dal_0) rfl rfl ?_
    show Steps p.tables e below (s₁.setTop (mkF m 1 #[.val (.ref a1)] [(.ref a1)])) _
    exact k)
  obtain ⟨_, _, ⟨T4, L4, kk4, nn4⟩, -, X4, ⟨Lc4, hQ4, l4, y4, z4⟩, st4⟩ := X0.specialBack hx (y := (⟨"java/util/AbstractList", "<init>", "()V"⟩ : MethodName)) rfl hown (mvT hZ (hw _ (List.mem_of_getElem? (i := 25) rfl))) (mvT hZ (hw _ (List.mem_of_getElem? (i := 26) rfl))) (mvT hZ (hw _ (List.mem_of_getElem? (i := 30) rfl))) (by decide) (backOf (W := 0) (rm_ab l Z a0 hw [] a1 u1 u2 h0 n0 Z0 E1 F1 F2 g_a1) hZ (hw _ (List.mem_of_getElem? (i := 30) rfl)) (hw _ (List.mem_of_getElem? (i := 29) rfl)) (by decide) (by decide)) (g := (mkF m 1 #[.val (.ref a1)] [(.ref a1)])) rfl (by rw [hml]; rfl) (Steps.refl _) (a := a1) (argsL := []) (rest := []) (lenOf pd___V rfl) rfl (by show 2 * 0 + _ ≤ _; exact Nat.le_of_eq rfl) (hb hby dal_1) (fun _ _ => ⟨rfl, e0, (by decide : 0 + 0 ≤ _), (by decide : 0 + 0 ≤ _)⟩)
  dsimp only [Pt.U, Pt.locs, Pt.cells, Pt.slots] at X4 l4 y4 z4 st4 hQ4
  subst l4 y4 z4
  obtain ⟨rfl, N4q, Kc4, Fc4⟩ := hQ4
  have N4 := Fr.app N0 N4q
  have f5_0 := own_sta_keep S1 Kc4 (by intro x hx; simp only [List.mem_cons, List.not_mem_nil, or_false] at hx; rcases hx with rfl; exact own_ns_exa E1)
  have f5_1 := E1.keep Kc4
  have K6 := K2.trans Kc4 (fun x hx => by cases List.mem_singleton.mp hx; exact (Or.inl (List.mem_of_getElem? (i := 0) rfl)))
  have Z4 : n0 ≤ T4.heap.size := Nat.le_trans Z0 Kc4.1
  have e4 : T4.heap = T4.heap := rfl
  have pre7 : ∀ t, Steps p.tables e below (T4.setTop (mkF m 5 #[.val (.ref a1)] [(.ref a1)])) t → Steps p.tables e below (s₁.setTop (entryFrame m #[(.ref a1)] 1)) t := fun t k => pre3 t (by
    show Steps p.tables e below (s₁.setTop (mkF m 1 #[.val (.ref a1)] [(.ref a1)])) _
    refine st4.trans ?_
    show Steps p.tables e below (T4.setTop (mkF m 4 #[.val (.ref a1)] [])) _
    refine XS.aloadN X4.here hx rfl (hb hby dal_4) rfl rfl ?_
    show Steps p.tables e below (T4.setTop (mkF m 5 #[.val (.ref a1)] [(.ref a1)])) _
    exact k)
  obtain ⟨T8, X8, e8, st8⟩ := getS2 X4 hx hZ hown (host := "") (Or.inl (hw _ (List.mem_of_getElem? (i := 40) rfl))) Via.refl e4 f5_0 (g := (mkF m 5 #[.val (.ref a1)] [(.ref a1)])) rfl (hb hby dal_5)
  have pre9 : ∀ t, Steps p.tables e below (T8.setTop (mkF m 8 #[.val (.ref a1)] [(.ref w3), (.ref a1)])) t → Steps p.tables e below (s₁.setTop (entryFrame m #[(.ref a1)] 1)) t := fun t k => pre7 t (by
    show Steps p.tables e below (T4.setTop (mkF m 5 #[.val (.ref a1)] [(.ref a1)])) _
    refine st8 _ ?_
    show Steps p.tables e below (T8.setTop (mkF m 8 #[.val (.ref a1)] [(.ref w3), (.ref a1)])) _
    exact k)
  obtain ⟨T10, h10, X10, e10, W10, st10⟩ := putF X8 hx hZ hown (host := "") (Or.inl (hw _ (List.mem_of_getElem? (i := 41) rfl))) Via.refl e8 Fc4 f5_1 (Or.inl (hw _ (List.mem_of_getElem? (i := 42) rfl))) (hw _ (List.mem_of_getElem? (i := 20) rfl)) (ty := (.array (.object "java/lang/Object"))) (by decide) rfl rfl (g := (mkF m 8 #[.val (.ref a1)] [(.ref w3), (.ref a1)])) rfl rfl (hb hby dal_8)
  have F10 := Fc4.same W10
  have N10 := Fr.snoc X10 N4 g_a1
  have f11_0 := f5_0.wr W10
  have f11_1 := f5_1.wr W10
  have K12 := K6.wr W10 (Or.inl (List.mem_of_getElem? (i := 0) rfl))
  have Z10 : n0 ≤ h10.size := Nat.le_trans Z4 (Keep.of_wr W10).1
  have pre13 : ∀ t, Steps p.tables e below (T10.setTop (mkF m 11 #[.val (.ref a1)] [])) t → Steps p.tables e below (s₁.setTop (entryFrame m #[(.ref a1)] 1)) t := fun t k => pre9 t (by
    show Steps p.tables e below (T8.setTop (mkF m 8 #[.val (.ref a1)] [(.ref w3), (.ref a1)])) _
    refine st10 _ ?_
    show Steps p.tables e below (T10.setTop (mkF m 11 #[.val (.ref a1)] [])) _
    exact k)
  obtain ⟨fs, hr, hrun, hended, hW, hsame⟩ := X10.leave (v := none) (fun _ => rfl)
  refine ⟨_, _, pre13 _ ?_, hrun, hended, _, _, rfl, ?_, ⟨_, rfl⟩, hW, hsame.mono (by decide) (by decide)⟩
  · exact X10.returnOut hx Bd.returns (hb hby dal_11) hr
  · show Q_al Z a1 w3 u1 u2 h0 n0 _ T10.heap _
    rw [e10]
    exact ⟨rfl, N10, K12⟩
theorem del_0 : decode prog_30_method_1_code 0 = .ok (.aload_n 0, 1) := by decide +kernel
theorem del_1 : decode prog_30_method_1_code 1 = .ok (.invokespecial 1, 3) := by decide +kernel
theorem del_4 : decode prog_30_method_1_code 4 = .ok (.aload_n 0, 1) := by decide +kernel
theorem del_5 : decode prog_30_method_1_code 5 = .ok (.iconst 3, 1) := by decide +kernel
theorem del_6 : decode prog_30_method_1_code 6 = .ok (.anewarray 7, 3) := by decide +kernel
theorem del_9 : decode prog_30_method_1_code 9 = .ok (.putfield 9, 3) := by decide +kernel
theorem del_12 : decode prog_30_method_1_code 12 = .ok (.aload_n 0, 1) := by decide +kernel
theorem del_13 : decode prog_30_method_1_code 13 = .ok (.iconst 3, 1) := by decide +kernel
theorem del_14 : decode prog_30_method_1_code 14 = .ok (.newarray .int, 2) := by decide +kernel
theorem del_16 : decode prog_30_method_1_code 16 = .ok (.putfield 15, 3) := by decide +kernel
theorem del_19 : decode prog_30_method_1_code 19 = .ok (.aload_n 0, 1) := by decide +kernel
theorem del_20 : decode prog_30_method_1_code 20 = .ok (.iconst 3, 1) := by decide +kernel
theorem del_21 : decode prog_30_method_1_code 21 = .ok (.newarray .int, 2) := by decide +kernel
theorem del_23 : decode prog_30_method_1_code 23 = .ok (.putfield 19, 3) := by decide +kernel
theorem del_26 : decode prog_30_method_1_code 26 = .ok (.aload_n 0, 1) := by decide +kernel
theorem del_27 : decode prog_30_method_1_code 27 = .ok (.new 22, 3) := by decide +kernel
theorem del_30 : decode prog_30_method_1_code 30 = .ok (.dup, 1) := by decide +kernel
theorem del_31 : decode prog_30_method_1_code 31 = .ok (.invokespecial 24, 3) := by decide +kernel
theorem del_34 : decode prog_30_method_1_code 34 = .ok (.putfield 25, 3) := by decide +kernel
theorem del_37 : decode prog_30_method_1_code 37 = .ok (.return_, 1) := by decide +kernel
theorem pn_el : plainName "com/example/tributary/tributary/merge/ListOrder$Element" = true := by first | (simp [plainName, overriddenIn]; done) | decide +kernel
theorem ef_el (m : MethodId) (a1 : Addr) : entryFrame m #[(.ref a1)] 1 = (mkF m 0 #[.val (.ref a1)] []) := by first | (simp [entryFrame, mkF, argsToLocals, Value.category]; done) | rfl
def Q_el (Z : State) (a1 : Addr) (w3 : Addr) (u0 u1 u2 u3 u4 : Value) (h0 : Heap) (n0 : Nat) (v : Option Value) (h : Heap) (L : List Loc) : Prop := v = none ∧ Fr n0 L ∧ Keep h0 h [a1] ∧ ∃ (b : Addr) (k : ClassId), Fld Z h a1 "com/example/tributary/tributary/merge/ListOrder$Element" "versions" "[Lcom/example/tributary/tributary/merge/Section;" (.ref b) ∧ Arv Z h b k (.object "com/example/tributary/tributary/merge/Section") 3 [] .null
set_option maxRecDepth 65536 in
set_option maxHeartbeats 40000000 in
theorem rm_el (l : Launch) (Z : State) (a0 : Array Value) (hw : ∀ d ∈ tables_1, d.before a0 Z = true) (ws : List Jvm.Cond) (a1 : Addr) (w3 : Addr) (u0 u1 u2 u3 u4 : Value) (h0 : Heap) (n0 : Nat) (Z0 : n0 ≤ h0.size) (S1 : Sta Z h0 "java/util/ArrayList" "DEFAULTCAPACITY_EMPTY_ELEMENTDATA" "[Ljava/lang/Object;" (.ref w3)) (E1 : Exa Z h0 a1 "com/example/tributary/tributary/merge/ListOrder$Element") (F0 : Fld Z h0 a1 "com/example/tributary/tributary/merge/ListOrder$Element" "versions" "[Lcom/example/tributary/tributary/merge/Section;" u0) (F1 : Fld Z h0 a1 "com/example/tributary/tributary/merge/ListOrder$Element" "indices" "[I" u1) (F2 : Fld Z h0 a1 "com/example/tributary/tributary/merge/ListOrder$Element" "follows" "[I" u2) (F3 : Fld Z h0 a1 "com/example/tributary/tributary/merge/ListOrder$Element" "taken" "Ljava/util/List;" u3) (F4 : Fld Z h0 a1 "com/example/tributary/tributary/merge/ListOrder$Element" "anchor" "I" u4) (g_a1 : n0 ≤ a1) :
    MetFree l (⟨"com/example/tributary/tributary/merge/ListOrder$Element", "<init>", "()V"⟩ : MethodName) (head1 (Jvm.Cond.code (⟨"com/example/tributary/tributary/merge/ListOrder$Element", "<init>", "()V"⟩ : MethodName) prog_30_method_1_code 1 none :: ws) ({ frames := 4, cells := 4, slots := 12, locals := 50 } : Room)) (fun a U => a = #[(.ref a1)] ∧ Z.Warmed39 U.vm ∧ U.heap = h0) (fun _ _ _ _ _ => True) (fun _ U o U' => ∃ v L, o = .returned v ∧ Q_el Z a1 w3 u0 u1 u2 u3 u4 h0 n0 v U'.heap L ∧ FrameEnd U o U' L ({ frames := 4, cells := 4, slots := 12, locals := 50 } : Room).cells ({ frames := 4, cells := 4, slots := 12, locals := 50 } : Room).slots) := by
  refine MetFree.of_bodySF (plainFor_of_name pn_el) hisR ?_
  intro p e s m args below meth c s₁ Bd hml0 hP hK
  obtain ⟨rfl, hZ, hh⟩ := hP
  have hx := Bd.exec
  have hby := Bd.bytes
  have hml : c.maxLocals = 1 := hml0
  have hown : s.vm.findClass "com/example/tributary/tributary/merge/ListOrder$Element" = some m.cls := findClass_of_methodNamed Bd.named
  have hnm := (name_of_methodNamed Bd.named Bd.method).1
  have X0 : Stand p l e ({ frames := 4, cells := 4, slots := 12, locals := 50 } : Room) s m #[(.ref a1)] below meth c s₁ [] 0 0 := Stand.of_body Bd
  have e0 : s₁.heap = h0 := by rw [← hh, Bd.state]; rfl
  have N0 := Fr.nil n0
  have pre0 : ∀ t, Steps p.tables e below (s₁.setTop (mkF m 0 #[.val (.ref a1)] [])) t → Steps p.tables e below (s₁.setTop (entryFrame m #[(.ref a1)] 1)) t := fun t k => castTop (ef_el m a1) k
  have K2 : Keep h0 h0 [a1] := Keep.refl h0 [a1]
  have pre3 : ∀ t, Steps p.tables e below (s₁.setTop (mkF m 1 #[.val (.ref a1)] [(.ref a1)])) t → Steps p.tables e below (s₁.setTop (entryFrame m #[(.ref a1)] 1)) t := fun t k => pre0 t (by
    show Steps p.tables e below (s₁.setTop (mkF m 0 #[.val (.ref a1)] [])) _
    refine XS.aloadN X0.here hx rfl (hb hby del_0) rfl rfl ?_
    show Steps p.tables e below (s₁.setTop (mkF m 1 #[.val (.ref a1)] [(.ref a1)])) _
    exact k)
  obtain ⟨T4, X4, e4, st4⟩ := initO X0 hx hZ hown (hw _ (List.mem_of_getElem? (i := 7) rfl)) (hw _ (List.mem_of_getElem? (i := 8) rfl)) (hw _ (List.mem_of_getElem? (i := 9) rfl)) e0 (g := (mkF m 1 #[.val (.ref a1)] [(.ref a1)])) rfl (by rw [hml]; rfl) rfl (hb hby del_1) (by decide) (W := 0) (by show 2 * 0 + _ ≤ _; exact Nat.le_of_eq rfl) (by decide)
  have pre5 : ∀ t, Steps p.tables e below (T4.setTop (mkF m 6 #[.val (.ref a1)] [(.int (3 : Int32)), (.ref a1)])) t → Steps p.tables e below (s₁.setTop (entryFrame m #[(.ref a1)] 1)) t := fun t k => pre3 t (by
    show Steps p.tables e below (s₁.setTop (mkF m 1 #[.val (.ref a1)] [(.ref a1)])) _
    refine st4 _ ?_
    show Steps p.tables e below (T4.setTop (mkF m 4 #[.val (.ref a1)] [])) _
    refine XS.aloadN X4.here hx rfl (hb hby del_4) rfl rfl ?_
    show Steps p.tables e below (T4.setTop (mkF m 5 #[.val (.ref a1)] [(.ref a1)])) _
    refine XS.iconst X4.here hx rfl (hb hby del_5) ?_
    show Steps p.tables e below (T4.setTop (mkF m 6 #[.val (.ref a1)] [(.int (3 : Int32)), (.ref a1)])) _
    exact k)
  obtain ⟨T6, h6, k6, X6, e6, E6, A6, O6, st6⟩ := newR X4 hx hZ hown (hw _ (List.mem_of_getElem? (i := 10) rfl)) (hw _ (List.mem_of_getElem? (i := 11) rfl)) e4 (g := (mkF m 6 #[.val (.ref a1)] [(.int (3 : Int32)), (.ref a1)])) rfl (hb hby del_6) rfl (by decide) (cap := 3) (by decide) (by decide) (by decide) (by decide)
  obtain ⟨b6, g6⟩ : ∃ z, z = h0.size := ⟨_, rfl⟩
  rw [← g6] at A6 st6
  have ne_a1_b6 : a1 ≠ b6 := Nat.ne_of_lt (Nat.lt_of_lt_of_eq E1.lt g6.symm)
  have g_b6 : n0 ≤ b6 := Nat.le_trans Z0 (Nat.le_of_eq g6.symm)
  have sz_b6 : h0.size ≤ b6 := Nat.le_trans K2.1 (Nat.le_of_eq g6.symm)
  have Z6 : n0 ≤ h6.size := Nat.le_trans Z0 E6.1
  have f7_0 := S1.ext E6
  have f7_1 := E1.ext E6
  have f7_2 := F0.ext E6
  have f7_3 := F1.ext E6
  have f7_4 := F2.ext E6
  have f7_5 := F3.ext E6
  have f7_6 := F4.ext E6
  have K8 := K2.ext E6
  have V6 := Arv.new A6 (by decide)
  have pre9 : ∀ t, Steps p.tables e below (T6.setTop (mkF m 9 #[.val (.ref a1)] [(.ref b6), (.ref a1)])) t → Steps p.tables e below (s₁.setTop (entryFrame m #[(.ref a1)] 1)) t := fun t k => pre5 t (by
    show Steps p.tables e below (T4.setTop (mkF m 6 #[.val (.ref a1)] [(.int (3 : Int32)), (.ref a1)])) _
    refine st6 _ ?_
    show Steps p.tables e below (T6.setTop (mkF m 9 #[.val (.ref a1)] [(.ref b6), (.ref a1)])) _
    exact k)
  obtain ⟨T10, h10, X10, e10, W10, st10⟩ := putF X6 hx hZ hown (host := "") (Or.inl (hw _ (List.mem_of_getElem? (i := 12) rfl))) Via.refl e6 f7_2 f7_1 (Or.inr ⟨(hw _ (List.mem_of_getElem? (i := 13) rfl)), rfl, hnm⟩) (hw _ (List.mem_of_getElem? (i := 2) rfl)) (ty := (.array (.object "com/example/tributary/tributary/merge/Section"))) (by decide) rfl rfl (g := (mkF m 9 #[.val (.ref a1)] [(.ref b6), (.ref a1)])) rfl rfl (hb hby del_9)
  have F10 := f7_2.same W10
  have N10 := Fr.snoc X10 N0 g_a1
  have f11_0 := f7_0.wr W10
  have f11_1 := f7_1.wr W10
  have f11_3 := f7_3.other W10 (Or.inr (slot_ne (Or.inr (hw _ (List.mem_of_getElem? (i := 16) rfl))) (Or.inr (hw _ (List.mem_of_getElem? (i := 13) rfl))) (by decide) (t := (.array .int)) (t' := (.array (.object "com/example/tributary/tributary/merge/Section"))) (by decide) (by decide)))
  have f11_4 := f7_4.other W10 (Or.inr (slot_ne (Or.inr (hw _ (List.mem_of_getElem? (i := 18) rfl))) (Or.inr (hw _ (List.mem_of_getElem? (i := 13) rfl))) (by decide) (t := (.array .int)) (t' := (.array (.object "com/example/tributary/tributary/merge/Section"))) (by decide) (by decide)))
  have f11_5 := f7_5.other W10 (Or.inr (slot_ne (Or.inr (hw _ (List.mem_of_getElem? (i := 44) rfl))) (Or.inr (hw _ (List.mem_of_getElem? (i := 13) rfl))) (by decide) (t := (.object "java/util/List")) (t' := (.array (.object "com/example/tributary/tributary/merge/Section"))) (by decide) (by decide)))
  have f11_6 := f7_6.other W10 (Or.inr (slot_ne (Or.inl (hw _ (List.mem_of_getElem? (i := 56) rfl))) (Or.inr (hw _ (List.mem_of_getElem? (i := 13) rfl))) (by decide) (t := .int) (t' := (.array (.object "com/example/tributary/tributary/merge/Section"))) (by decide) (by decide)))
  have f11_7 := V6.other W10 ne_a1_b6.symm
  have K12 := K8.wr W10 (Or.inl (List.mem_of_getElem? (i := 0) rfl))
  have Z10 : n0 ≤ h10.size := Nat.le_trans Z6 (Keep.of_wr W10).1
  have pre13 : ∀ t, Steps p.tables e below (T10.setTop (mkF m 14 #[.val (.ref a1)] [(.int (3 : Int32)), (.ref a1)])) t → Steps p.tables e below (s₁.setTop (entryFrame m #[(.ref a1)] 1)) t := fun t k => pre9 t (by
    show Steps p.tables e below (T6.setTop (mkF m 9 #[.val (.ref a1)] [(.ref b6), (.ref a1)])) _
    refine st10 _ ?_
    show Steps p.tables e below (T10.setTop (mkF m 12 #[.val (.ref a1)] [])) _
    refine XS.aloadN X10.here hx rfl (hb hby del_12) rfl rfl ?_
    show Steps p.tables e below (T10.setTop (mkF m 13 #[.val (.ref a1)] [(.ref a1)])) _
    refine XS.iconst X10.here hx rfl (hb hby del_13) ?_
    show Steps p.tables e below (T10.setTop (mkF m 14 #[.val (.ref a1)] [(.int (3 : Int32)), (.ref a1)])) _
    exact k)
  obtain ⟨T14, h14, k14, X14, e14, E14, A14, st14⟩ := newP X10 hx hZ (hw _ (List.mem_of_getElem? (i := 14) rfl)) e10 (g := (mkF m 14 #[.val (.ref a1)] [(.int (3 : Int32)), (.ref a1)])) rfl (hb hby del_14) rfl (by decide) (cap := 3) (by decide) (by decide) (by decide) (by decide)
  obtain ⟨b14, g14⟩ : ∃ z, z = h10.size := ⟨_, rfl⟩
  rw [← g14] at A14 st14
  have ne_a1_b14 : a1 ≠ b14 := Nat.ne_of_lt (Nat.lt_of_lt_of_eq f11_1.lt g14.symm)
  have ne_b6_b14 : b6 ≠ b14 := Nat.ne_of_lt (Nat.lt_of_lt_of_eq f11_7.lt g14.symm)
  have g_b14 : n0 ≤ b14 := Nat.le_trans Z10 (Nat.le_of_eq g14.symm)
  have sz_b14 : h0.size ≤ b14 := Nat.le_trans K12.1 (Nat.le_of_eq g14.symm)
  have Z14 : n0 ≤ h14.size := Nat.le_trans Z10 E14.1
  have f15_0 := f11_0.ext E14
  have f15_1 := f11_1.ext E14
  have f15_2 := f11_3.ext E14
  have f15_3 := f11_4.ext E14
  have f15_4 := f11_5.ext E14
  have f15_5 := f11_6.ext E14
  have f15_6 := f11_7.ext E14
  have f15_7 := F10.ext E14
  have K16 := K12.ext E14
  have V14 := Arv.new A14 (by decide)
  have pre17 : ∀ t, Steps p.tables e below (T14.setTop (mkF m 16 #[.val (.ref a1)] [(.ref b14), (.ref a1)])) t → Steps p.tables e below (s₁.setTop (entryFrame m #[(.ref a1)] 1)) t := fun t k => pre13 t (by
    show Steps p.tables e below (T10.setTop (mkF m 14 #[.val (.ref a1)] [(.int (3 : Int32)), (.ref a1)])) _
    refine st14 _ ?_
    show Steps p.tables e below (T14.setTop (mkF m 16 #[.val (.ref a1)] [(.ref b14), (.ref a1)])) _
    exact k)
  obtain ⟨T18, h18, X18, e18, W18, st18⟩ := putF X14 hx hZ hown (host := "") (Or.inl (hw _ (List.mem_of_getElem? (i := 15) rfl))) Via.refl e14 f15_2 f15_1 (Or.inr ⟨(hw _ (List.mem_of_getElem? (i := 16) rfl)), rfl, hnm⟩) (hw _ (List.mem_of_getElem? (i := 2) rfl)) (ty := (.array .int)) (by decide) rfl rfl (g := (mkF m 16 #[.val (.ref a1)] [(.ref b14), (.ref a1)])) rfl rfl (hb hby del_16)
  have F18 := f15_2.same W18
  have N18 := Fr.snoc X18 N10 g_a1
  have f19_0 := f15_0.wr W18
  have f19_1 := f15_1.wr W18
  have f19_3 := f15_3.other W18 (Or.inr (slot_ne (Or.inr (hw _ (List.mem_of_getElem? (i := 18) rfl))) (Or.inr (hw _ (List.mem_of_getElem? (i := 16) rfl))) (by decide) (t := (.array .int)) (t' := (.array .int)) (by decide) (by decide)))
  have f19_4 := f15_4.other W18 (Or.inr (slot_ne (Or.inr (hw _ (List.mem_of_getElem? (i := 44) rfl))) (Or.inr (hw _ (List.mem_of_getElem? (i := 16) rfl))) (by decide) (t := (.object "java/util/List")) (t' := (.array .int)) (by decide) (by decide)))
  have f19_5 := f15_5.other W18 (Or.inr (slot_ne (Or.inl (hw _ (List.mem_of_getElem? (i := 56) rfl))) (Or.inr (hw _ (List.mem_of_getElem? (i := 16) rfl))) (by decide) (t := .int) (t' := (.array .int)) (by decide) (by decide)))
  have f19_6 := f15_6.other W18 ne_a1_b6.symm
  have f19_7 := f15_7.other W18 (Or.inr (slot_ne (Or.inr (hw _ (List.mem_of_getElem? (i := 13) rfl))) (Or.inr (hw _ (List.mem_of_getElem? (i := 16) rfl))) (by decide) (t := (.array (.object "com/example/tributary/tributary/merge/Section"))) (t' := (.array .int)) (by decide) (by decide)))
  have f19_8 := V14.other W18 ne_a1_b14.symm
  have K20 := K16.wr W18 (Or.inl (List.mem_of_getElem? (i := 0) rfl))
  have Z18 : n0 ≤ h18.size := Nat.le_trans Z14 (Keep.of_wr W18).1
  have pre21 : ∀ t, Steps p.tables e below (T18.setTop (mkF m 21 #[.val (.ref a1)] [(.int (3 : Int32)), (.ref a1)])) t → Steps p.tables e below (s₁.setTop (entryFrame m #[(.ref a1)] 1)) t := fun t k => pre17 t (by
    show Steps p.tables e below (T14.setTop (mkF m 16 #[.val (.ref a1)] [(.ref b14), (.ref a1)])) _
    refine st18 _ ?_
    show Steps p.tables e below (T18.setTop (mkF m 19 #[.val (.ref a1)] [])) _
    refine XS.aloadN X18.here hx rfl (hb hby del_19) rfl rfl ?_
    show Steps p.tables e below (T18.setTop (mkF m 20 #[.val (.ref a1)] [(.ref a1)])) _
    refine XS.iconst X18.here hx rfl (hb hby del_20) ?_
    show Steps p.tables e below (T18.setTop (mkF m 21 #[.val (.ref a1)] [(.int (3 : Int32)), (.ref a1)])) _
    exact k)
  obtain ⟨T22, h22, k22, X22, e22, E22, A22, st22⟩ := newP X18 hx hZ (hw _ (List.mem_of_getElem? (i := 14) rfl)) e18 (g := (mkF m 21 #[.val (.ref a1)] [(.int (3 : Int32)), (.ref a1)])) rfl (hb hby del_21) rfl (by decide) (cap := 3) (by decide) (by decide) (by decide) (by decide)
  obtain ⟨b22, g22⟩ : ∃ z, z = h18.size := ⟨_, rfl⟩
  rw [← g22] at A22 st22
  have ne_a1_b22 : a1 ≠ b22 := Nat.ne_of_lt (Nat.lt_of_lt_of_eq f19_1.lt g22.symm)
  have ne_b6_b22 : b6 ≠ b22 := Nat.ne_of_lt (Nat.lt_of_lt_of_eq f19_6.lt g22.symm)
  have ne_b14_b22 : b14 ≠ b22 := Nat.ne_of_lt (Nat.lt_of_lt_of_eq f19_8.lt g22.symm)
  have g_b22 : n0 ≤ b22 := Nat.le_trans Z18 (Nat.le_of_eq g22.symm)
  have sz_b22 : h0.size ≤ b22 := Nat.le_trans K20.1 (Nat.le_of_eq g22.symm)
  have Z22 : n0 ≤ h22.size := Nat.le_trans Z18 E22.1
  have f23_0 := f19_0.ext E22
  have f23_1 := f19_1.ext E22
  have f23_2 := f19_3.ext E22
  have f23_3 := f19_4.ext E22
  have f23_4 := f19_5.ext E22
  have f23_5 := f19_6.ext E22
  have f23_6 := f19_7.ext E22
  have f23_7 := f19_8.ext E22
  have f23_8 := F18.ext E22
  have K24 := K20.ext E22
  have V22 := Arv.new A22 (by decide)
  have pre25 : ∀ t, Steps p.tables e below (T22.setTop (mkF m 23 #[.val (.ref a1)] [(.ref b22), (.ref a1)])) t → Steps p.tables e below (s₁.setTop (entryFrame m #[(.ref a1)] 1)) t := fun t k => pre21 t (by
    show Steps p.tables e below (T18.setTop (mkF m 21 #[.val (.ref a1)] [(.int (3 : Int32)), (.ref a1)])) _
    refine st22 _ ?_
    show Steps p.tables e below (T22.setTop (mkF m 23 #[.val (.ref a1)] [(.ref b22), (.ref a1)])) _
    exact k)
  obtain ⟨T26, h26, X26, e26, W26, st26⟩ := putF X22 hx hZ hown (host := "") (Or.inl (hw _ (List.mem_of_getElem? (i := 17) rfl))) Via.refl e22 f23_2 f23_1 (Or.inr ⟨(hw _ (List.mem_of_getElem? (i := 18) rfl)), rfl, hnm⟩) (hw _ (List.mem_of_getElem? (i := 2) rfl)) (ty := (.array .int)) (by decide) rfl rfl (g := (mkF m 23 #[.val (.ref a1)] [(.ref b22), (.ref a1)])) rfl rfl (hb hby del_23)
  have F26 := f23_2.same W26
  have N26 := Fr.snoc X26 N18 g_a1
  have f27_0 := f23_0.wr W26
  have f27_1 := f23_1.wr W26
  have f27_3 := f23_3.other W26 (Or.inr (slot_ne (Or.inr (hw _ (List.mem_of_getElem? (i := 44) rfl))) (Or.inr (hw _ (List.mem_of_getElem? (i := 18) rfl))) (by decide) (t := (.object "java/util/List")) (t' := (.array .int)) (by decide) (by decide)))
  have f27_4 := f23_4.other W26 (Or.inr (slot_ne (Or.inl (hw _ (List.mem_of_getElem? (i := 56) rfl))) (Or.inr (hw _ (List.mem_of_getElem? (i := 18) rfl))) (by decide) (t := .int) (t' := (.array .int)) (by decide) (by decide)))
  have f27_5 := f23_5.other W26 ne_a1_b6.symm
  have f27_6 := f23_6.other W26 (Or.inr (slot_ne (Or.inr (hw _ (List.mem_of_getElem? (i := 13) rfl))) (Or.inr (hw _ (List.mem_of_getElem? (i := 18) rfl))) (by decide) (t := (.array (.object "com/example/tributary/tributary/merge/Section"))) (t' := (.array .int)) (by decide) (by decide)))
  have f27_7 := f23_7.other W26 ne_a1_b14.symm
  have f27_8 := f23_8.other W26 (Or.inr (slot_ne (Or.inr (hw _ (List.mem_of_getElem? (i := 16) rfl))) (Or.inr (hw _ (List.mem_of_getElem? (i := 18) rfl))) (by decide) (t := (.array .int)) (t' := (.array .int)) (by decide) (by decide)))
  have f27_9 := V22.other W26 ne_a1_b22.symm
  have K28 := K24.wr W26 (Or.inl (List.mem_of_getElem? (i := 0) rfl))
  have Z26 : n0 ≤ h26.size := Nat.le_trans Z22 (Keep.of_wr W26).1
  have pre29 : ∀ t, Steps p.tables e below (T26.setTop (mkF m 27 #[.val (.ref a1)] [(.ref a1)])) t → Steps p.tables e below (s₁.setTop (entryFrame m #[(.ref a1)] 1)) t := fun t k => pre25 t (by
    show Steps p.tables e below (T22.setTop (mkF m 23 #[.val (.ref a1)] [(.ref b22), (.ref a1)])) _
    refine st26 _ ?_
    show Steps p.tables e below (T26.setTop (mkF m 26 #[.val (.ref a1)] [])) _
    refine XS.aloadN X26.here hx rfl (hb hby del_26) rfl rfl ?_
    show Steps p.tables e below (T26.setTop (mkF m 27 #[.val (.ref a1)] [(.ref a1)])) _
    exact k)
  obtain ⟨T30, h30, X30, e30, E30, A30, D30, -, st30⟩ := newO X26 hx hZ hown (hw _ (List.mem_of_getElem? (i := 19) rfl)) (hw _ (List.mem_of_getElem? (i := 20) rfl)) (hw _ (List.mem_of_getElem? (i := 21) rfl)) e26 (g := (mkF m 27 #[.val (.ref a1)] [(.ref a1)])) rfl (hb hby del_27) (by decide) (by decide)
  obtain ⟨b30, g30⟩ : ∃ z, z = h26.size := ⟨_, rfl⟩
  rw [← g30] at A30 D30 st30
  have ne_a1_b30 : a1 ≠ b30 := Nat.ne_of_lt (Nat.lt_of_lt_of_eq f27_1.lt g30.symm)
  have ne_b6_b30 : b6 ≠ b30 := Nat.ne_of_lt (Nat.lt_of_lt_of_eq f27_5.lt g30.symm)
  have ne_b14_b30 : b14 ≠ b30 := Nat.ne_of_lt (Nat.lt_of_lt_of_eq f27_7.lt g30.symm)
  have ne_b22_b30 : b22 ≠ b30 := Nat.ne_of_lt (Nat.lt_of_lt_of_eq f27_9.lt g30.symm)
  have g_b30 : n0 ≤ b30 := Nat.le_trans Z26 (Nat.le_of_eq g30.symm)
  have sz_b30 : h0.size ≤ b30 := Nat.le_trans K28.1 (Nat.le_of_eq g30.symm)
  have Z30 : n0 ≤ h30.size := Nat.le_trans Z26 E30.1
  have f31_0 := f27_0.ext E30
  have f31_1 := f27_1.ext E30
  have f31_2 := f27_3.ext E30
  have f31_3 := f27_4.ext E30
  have f31_4 := f27_5.ext E30
  have f31_5 := f27_6.ext E30
  have f31_6 := f27_7.ext E30
  have f31_7 := f27_8.ext E30
  have f31_8 := f27_9.ext E30
  have f31_9 := F26.ext E30
  have K32 := K28.ext E30
  have F30_modCount : Fld Z h30 b30 "java/util/AbstractList" "modCount" "I" (.int (0 : Int32)) := D30 (Or.inl (hw _ (List.mem_of_getElem? (i := 39) rfl))) (ty := .int) (by decide)
  have F30_elementData : Fld Z h30 b30 "java/util/ArrayList" "elementData" "[Ljava/lang/Object;" .null := D30 (Or.inl (hw _ (List.mem_of_getElem? (i := 42) rfl))) (ty := (.array (.object "java/lang/Object"))) (by decide)
  have pre33 : ∀ t, Steps p.tables e below (T30.setTop (mkF m 31 #[.val (.ref a1)] [(.ref b30), (.ref b30), (.ref a1)])) t → Steps p.tables e below (s₁.setTop (entryFrame m #[(.ref a1)] 1)) t := fun t k => pre29 t (by
    show Steps p.tables e below (T26.setTop (mkF m 27 #[.val (.ref a1)] [(.ref a1)])) _
    refine st30 _ ?_
    show Steps p.tables e below (T30.setTop (mkF m 30 #[.val (.ref a1)] [(.ref b30), (.ref a1)])) _
    refine XS.dup X30.here hx rfl (hb hby del_30) rfl rfl ?_
    show Steps p.tables e below (T30.setTop (mkF m 31 #[.val (.ref a1)] [(.ref b30), (.ref b30), (.ref a1)])) _
    exact k)
  obtain ⟨_, _, ⟨T34, L34, kk34, nn34⟩, -, X34, ⟨Lc34, hQ34, l34, y34, z34⟩, st34⟩ := X30.specialBack hx (y := (⟨"java/util/ArrayList", "<init>", "()V"⟩ : MethodName)) rfl hown (mvT hZ (hw _ (List.mem_of_getElem? (i := 22) rfl))) (mvT hZ (hw _ (List.mem_of_getElem? (i := 23) rfl))) (mvT hZ (hw _ (List.mem_of_getElem? (i := 24) rfl))) (by decide) (backOf (W := 2) (rm_al l Z a0 hw [] b30 w3 _ _ h30 n0 Z30 f31_0 A30 F30_modCount F30_elementData g_b30) hZ (hw _ (List.mem_of_getElem? (i := 24) rfl)) (hw _ (List.mem_of_getElem? (i := 21) rfl)) (by decide) (by decide)) (g := (mkF m 31 #[.val (.ref a1)] [(.ref b30), (.ref b30), (.ref a1)])) rfl (by rw [hml]; rfl) (Steps.refl _) (a := b30) (argsL := []) (rest := [(.ref b30), (.ref a1)]) (lenOf pd___V rfl) rfl (by show 2 * 0 + _ ≤ _; exact Nat.le_of_eq rfl) (hb hby del_31) (fun _ _ => ⟨rfl, e30, (by decide : 4 + 0 ≤ _), (by decide : 12 + 0 ≤ _)⟩)
  dsimp only [Pt.U, Pt.locs, Pt.cells, Pt.slots] at X34 l34 y34 z34 st34 hQ34
  subst l34 y34 z34
  obtain ⟨rfl, N34q, Kc34⟩ := hQ34
  have N34 := Fr.app N26 N34q
  have f35_0 := own_sta_keep f31_0 Kc34 (by intro x hx; simp only [List.mem_cons, List.not_mem_nil, or_false] at hx; rcases hx with rfl; exact own_ns_exa A30)
  have f35_1 := f31_1.keep Kc34
  have f35_2 := f31_2.keep Kc34 (by simp only [List.mem_cons, List.not_mem_nil, or_false, not_or]; exact ne_a1_b30)
  have f35_3 := f31_3.keep Kc34 (by simp only [List.mem_cons, List.not_mem_nil, or_false, not_or]; exact ne_a1_b30)
  have f35_4 := f31_4.keep Kc34 (by simp only [List.mem_cons, List.not_mem_nil, or_false, not_or]; exact ne_b6_b30)
  have f35_5 := f31_5.keep Kc34 (by simp only [List.mem_cons, List.not_mem_nil, or_false, not_or]; exact ne_a1_b30)
  have f35_6 := f31_6.keep Kc34 (by simp only [List.mem_cons, List.not_mem_nil, or_false, not_or]; exact ne_b14_b30)
  have f35_7 := f31_7.keep Kc34 (by simp only [List.mem_cons, List.not_mem_nil, or_false, not_or]; exact ne_a1_b30)
  have f35_8 := f31_8.keep Kc34 (by simp only [List.mem_cons, List.not_mem_nil, or_false, not_or]; exact ne_b22_b30)
  have f35_9 := f31_9.keep Kc34 (by simp only [List.mem_cons, List.not_mem_nil, or_false, not_or]; exact ne_a1_b30)
  have f35_10 := A30.keep Kc34
  have K36 := K32.trans Kc34 (fun x hx => by cases List.mem_singleton.mp hx; exact (Or.inr sz_b30))
  have Z34 : n0 ≤ T34.heap.size := Nat.le_trans Z30 Kc34.1
  have e34 : T34.heap = T34.heap := rfl
  have pre37 : ∀ t, Steps p.tables e below (T34.setTop (mkF m 34 #[.val (.ref a1)] [(.ref b30), (.ref a1)])) t → Steps p.tables e below (s₁.setTop (entryFrame m #[(.ref a1)] 1)) t := fun t k => pre33 t (by
    show Steps p.tables e below (T30.setTop (mkF m 31 #[.val (.ref a1)] [(.ref b30), (.ref b30), (.ref a1)])) _
    refine st34.trans ?_
    show Steps p.tables e below (T34.setTop (mkF m 34 #[.val (.ref a1)] [(.ref b30), (.ref a1)])) _
    exact k)
  obtain ⟨T38, h38, X38, e38, W38, st38⟩ := putF X34 hx hZ hown (host := "") (Or.inl (hw _ (List.mem_of_getElem? (i := 43) rfl))) Via.refl e34 f35_2 f35_1 (Or.inr ⟨(hw _ (List.mem_of_getElem? (i := 44) rfl)), rfl, hnm⟩) (hw _ (List.mem_of_getElem? (i := 2) rfl)) (ty := (.object "java/util/List")) (by decide) rfl rfl (g := (mkF m 34 #[.val (.ref a1)] [(.ref b30), (.ref a1)])) rfl rfl (hb hby del_34)
  have F38 := f35_2.same W38
  have N38 := Fr.snoc X38 N34 g_a1
  have f39_0 := f35_0.wr W38
  have f39_1 := f35_1.wr W38
  have f39_3 := f35_3.other W38 (Or.inr (slot_ne (Or.inl (hw _ (List.mem_of_getElem? (i := 56) rfl))) (Or.inr (hw _ (List.mem_of_getElem? (i := 44) rfl))) (by decide) (t := .int) (t' := (.object "java/util/List")) (by decide) (by decide)))
  have f39_4 := f35_4.other W38 ne_a1_b6.symm
  have f39_5 := f35_5.other W38 (Or.inr (slot_ne (Or.inr (hw _ (List.mem_of_getElem? (i := 13) rfl))) (Or.inr (hw _ (List.mem_of_getElem? (i := 44) rfl))) (by decide) (t := (.array (.object "com/example/tributary/tributary/merge/Section"))) (t' := (.object "java/util/List")) (by decide) (by decide)))
  have f39_6 := f35_6.other W38 ne_a1_b14.symm
  have f39_7 := f35_7.other W38 (Or.inr (slot_ne (Or.inr (hw _ (List.mem_of_getElem? (i := 16) rfl))) (Or.inr (hw _ (List.mem_of_getElem? (i := 44) rfl))) (by decide) (t := (.array .int)) (t' := (.object "java/util/List")) (by decide) (by decide)))
  have f39_8 := f35_8.other W38 ne_a1_b22.symm
  have f39_9 := f35_9.other W38 (Or.inr (slot_ne (Or.inr (hw _ (List.mem_of_getElem? (i := 18) rfl))) (Or.inr (hw _ (List.mem_of_getElem? (i := 44) rfl))) (by decide) (t := (.array .int)) (t' := (.object "java/util/List")) (by decide) (by decide)))
  have f39_10 := f35_10.wr W38
  have K40 := K36.wr W38 (Or.inl (List.mem_of_getElem? (i := 0) rfl))
  have Z38 : n0 ≤ h38.size := Nat.le_trans Z34 (Keep.of_wr W38).1
  have pre41 : ∀ t, Steps p.tables e below (T38.setTop (mkF m 37 #[.val (.ref a1)] [])) t → Steps p.tables e below (s₁.setTop (entryFrame m #[(.ref a1)] 1)) t := fun t k => pre37 t (by
    show Steps p.tables e below (T34.setTop (mkF m 34 #[.val (.ref a1)] [(.ref b30), (.ref a1)])) _
    refine st38 _ ?_
    show Steps p.tables e below (T38.setTop (mkF m 37 #[.val (.ref a1)] [])) _
    exact k)
  obtain ⟨fs, hr, hrun, hended, hW, hsame⟩ := X38.leave (v := none) (fun _ => rfl)
  refine ⟨_, _, pre41 _ ?_, hrun, hended, _, _, rfl, ?_, ⟨_, rfl⟩, hW, hsame.mono (by decide) (by decide)⟩
  · exact X38.returnOut hx Bd.returns (hb hby del_37) hr
  · show Q_el Z a1 w3 u0 u1 u2 u3 u4 h0 n0 _ T38.heap _
    rw [e38]
    exact ⟨rfl, N38, K40, b6, k6, f39_5, f39_4⟩
theorem din_0 : decode prog_30_method_2_code 0 = .ok (.aload_n 0, 1) := by decide +kernel
theorem din_1 : decode prog_30_method_2_code 1 = .ok (.getfield 9, 3) := by decide +kernel
theorem din_4 : decode prog_30_method_2_code 4 = .ok (.iload_n 1, 1) := by decide +kernel
theorem din_5 : decode prog_30_method_2_code 5 = .ok (.aaload, 1) := by decide +kernel
theorem din_6 : decode prog_30_method_2_code 6 = .ok (.areturn, 1) := by decide +kernel
theorem pn_in : plainName "com/example/tributary/tributary/merge/ListOrder$Element" = true := by first | (simp [plainName, overriddenIn]; done) | decide +kernel
theorem ef_in (m : MethodId) (a1 : Addr) (p2 : Int32) : entryFrame m #[(.ref a1), (.int p2)] 2 = (mkF m 0 #[.val (.ref a1), .val (.int p2)] []) := by first | (simp [entryFrame, mkF, argsToLocals, Value.category]; done) | rfl
def Q_in (Z : State) (a1 : Addr) (p2 : Int32) (b : Addr) (k : ClassId) (h0 : Heap) (n0 : Nat) (v : Option Value) (h : Heap) (L : List Loc) : Prop := v = some .null ∧ Fr n0 L ∧ h = h0
set_option maxRecDepth 65536 in
set_option maxHeartbeats 40000000 in
theorem rm_in (l : Launch) (Z : State) (a0 : Array Value) (hw : ∀ d ∈ tables_1, d.before a0 Z = true) (ws : List Jvm.Cond) (a1 : Addr) (p2 : Int32) (b : Addr) (k : ClassId) (h0 : Heap) (n0 : Nat) (Z0 : n0 ≤ h0.size) (F1 : Fld Z h0 a1 "com/example/tributary/tributary/merge/ListOrder$Element" "versions" "[Lcom/example/tributary/tributary/merge/Section;" (.ref b)) (V1 : Arv Z h0 b k (.object "com/example/tributary/tributary/merge/Section") 3 [] .null) (hi : ¬ p2 < 0 ∧ p2 < 3) :
    MetFree l (⟨"com/example/tributary/tributary/merge/ListOrder$Element", "in", "(I)Lcom/example/tributary/tributary/merge/Section;"⟩ : MethodName) (head1 (Jvm.Cond.code (⟨"com/example/tributary/tributary/merge/ListOrder$Element", "in", "(I)Lcom/example/tributary/tributary/merge/Section;"⟩ : MethodName) prog_30_method_2_code 2 (some (.object "com/example/tributary/tributary/merge/Section")) :: ws) ({ frames := 0, cells := 0, slots := 0, locals := 0 } : Room)) (fun a U => a = #[(.ref a1), (.int p2)] ∧ Z.Warmed39 U.vm ∧ U.heap = h0) (fun _ _ _ _ _ => True) (fun _ U o U' => ∃ v L, o = .returned v ∧ Q_in Z a1 p2 b k h0 n0 v U'.heap L ∧ FrameEnd U o U' L ({ frames := 0, cells := 0, slots := 0, locals := 0 } : Room).cells ({ frames := 0, cells := 0, slots := 0, locals := 0 } : Room).slots) := by
  refine MetFree.of_bodySF (plainFor_of_name pn_in) hisR ?_
  intro p e s m args below meth c s₁ Bd hml0 hP hK
  obtain ⟨rfl, hZ, hh⟩ := hP
  have hx := Bd.exec
  have hby := Bd.bytes
  have hml : c.maxLocals = 2 := hml0
  have hown : s.vm.findClass "com/example/tributary/tributary/merge/ListOrder$Element" = some m.cls := findClass_of_methodNamed Bd.named
  have hnm := (name_of_methodNamed Bd.named Bd.method).1
  have X0 : Stand p l e ({ frames := 0, cells := 0, slots := 0, locals := 0 } : Room) s m #[(.ref a1), (.int p2)] below meth c s₁ [] 0 0 := Stand.of_body Bd
  have e0 : s₁.heap = h0 := by rw [← hh, Bd.state]; rfl
  have N0 := Fr.nil n0
  have pre0 : ∀ t, Steps p.tables e below (s₁.setTop (mkF m 0 #[.val (.ref a1), .val (.int p2)] [])) t → Steps p.tables e below (s₁.setTop (entryFrame m #[(.ref a1), (.int p2)] 2)) t := fun t k => castTop (ef_in m a1 p2) k
  have pre2 : ∀ t, Steps p.tables e below (s₁.setTop (mkF m 1 #[.val (.ref a1), .val (.int p2)] [(.ref a1)])) t → Steps p.tables e below (s₁.setTop (entryFrame m #[(.ref a1), (.int p2)] 2)) t := fun t k => pre0 t (by
    show Steps p.tables e below (s₁.setTop (mkF m 0 #[.val (.ref a1), .val (.int p2)] [])) _
    refine XS.aloadN X0.here hx rfl (hb hby din_0) rfl rfl ?_
    show Steps p.tables e below (s₁.setTop (mkF m 1 #[.val (.ref a1), .val (.int p2)] [(.ref a1)])) _
    exact k)
  obtain ⟨T3, X3, e3, st3⟩ := getF X0 hx hZ hown (host := "") (Or.inl (hw _ (List.mem_of_getElem? (i := 12) rfl))) Via.refl e0 F1 (g := (mkF m 1 #[.val (.ref a1), .val (.int p2)] [(.ref a1)])) rfl rfl (hb hby din_1)
  obtain ⟨cl4, Ar4, kc4, S4, M4, H4, G4⟩ := id V1
  have hin4 := inb_of S4 (j := p2) hi
  have hat4 : cl4.slots[(p2).toNatClampNeg]? = some .null := H4.at hin4 rfl
  have pre5 : ∀ t, Steps p.tables e below (T3.setTop (mkF m 6 #[.val (.ref a1), .val (.int p2)] [.null])) t → Steps p.tables e below (s₁.setTop (entryFrame m #[(.ref a1), (.int p2)] 2)) t := fun t k => pre2 t (by
    show Steps p.tables e below (s₁.setTop (mkF m 1 #[.val (.ref a1), .val (.int p2)] [(.ref a1)])) _
    refine st3 _ ?_
    show Steps p.tables e below (T3.setTop (mkF m 4 #[.val (.ref a1), .val (.int p2)] [(.ref b)])) _
    refine XS.iloadN X3.here hx rfl (hb hby din_4) rfl ?_
    show Steps p.tables e below (T3.setTop (mkF m 5 #[.val (.ref a1), .val (.int p2)] [(.int p2), (.ref b)])) _
    refine X3.aaload hx (j := p2) (v := .null) (by rw [e3]; exact Ar4.1) (State.isArrayOf_alike hZ.alike Ar4.2.1) rfl Ar4.2.2 hin4 hat4 (g := (mkF m 5 #[.val (.ref a1), .val (.int p2)] [(.int p2), (.ref b)])) rfl rfl (hb hby din_5) _ ?_
    show Steps p.tables e below (T3.setTop (mkF m 6 #[.val (.ref a1), .val (.int p2)] [.null])) _
    exact k)
  obtain ⟨fs, hr, hrun, hended, hW, hsame⟩ := X3.leave (v := some .null) (fun h => by rw [Bd.returns] at h; cases h)
  refine ⟨_, _, pre5 _ ?_, hrun, hended, _, _, rfl, ?_, ⟨_, rfl⟩, hW, hsame.mono (by decide) (by decide)⟩
  · show Steps p.tables e below (T3.setTop (mkF m 6 #[.val (.ref a1), .val (.int p2)] [.null])) _
    jvm_step X3.here [X3.here.top, hx, (hb hby din_6), X3.method', Bd.returns, Value.isRef, FieldType.isReference]
    first | (intro acts; rw [hr _ acts rfl rfl rfl]) | rw [hr _ _ rfl rfl rfl]
    exact Steps.refl _
  · show Q_in Z a1 p2 b k h0 n0 _ T3.heap _
    rw [e3]
    exact ⟨rfl, N0, rfl⟩
theorem dpl_0 : decode prog_30_method_5_code 0 = .ok (.aload_n 0, 1) := by decide +kernel
theorem dpl_1 : decode prog_30_method_5_code 1 = .ok (.getfield 9, 3) := by decide +kernel
theorem dpl_4 : decode prog_30_method_5_code 4 = .ok (.iload_n 1, 1) := by decide +kernel
theorem dpl_5 : decode prog_30_method_5_code 5 = .ok (.aaload, 1) := by decide +kernel
theorem dpl_6 : decode prog_30_method_5_code 6 = .ok (.ifnull 20, 3) := by decide +kernel
theorem dpl_26 : decode prog_30_method_5_code 26 = .ok (.iconst 0, 1) := by decide +kernel
theorem dpl_27 : decode prog_30_method_5_code 27 = .ok (.ireturn, 1) := by decide +kernel
theorem pn_pl : plainName "com/example/tributary/tributary/merge/ListOrder$Element" = true := by first | (simp [plainName, overriddenIn]; done) | decide +kernel
theorem ef_pl (m : MethodId) (a1 : Addr) (p2 : Int32) : entryFrame m #[(.ref a1), (.int p2)] 2 = (mkF m 0 #[.val (.ref a1), .val (.int p2)] []) := by first | (simp [entryFrame, mkF, argsToLocals, Value.category]; done) | rfl
def Q_pl (Z : State) (a1 : Addr) (p2 : Int32) (b : Addr) (k : ClassId) (h0 : Heap) (n0 : Nat) (v : Option Value) (h : Heap) (L : List Loc) : Prop := v = some (.int 0) ∧ Fr n0 L ∧ h = h0
set_option maxRecDepth 65536 in
set_option maxHeartbeats 40000000 in
theorem rm_pl (l : Launch) (Z : State) (a0 : Array Value) (hw : ∀ d ∈ tables_1, d.before a0 Z = true) (ws : List Jvm.Cond) (a1 : Addr) (p2 : Int32) (b : Addr) (k : ClassId) (h0 : Heap) (n0 : Nat) (Z0 : n0 ≤ h0.size) (F1 : Fld Z h0 a1 "com/example/tributary/tributary/merge/ListOrder$Element" "versions" "[Lcom/example/tributary/tributary/merge/Section;" (.ref b)) (V1 : Arv Z h0 b k (.object "com/example/tributary/tributary/merge/Section") 3 [] .null) (hi : ¬ p2 < 0 ∧ p2 < 3) :
    MetFree l (⟨"com/example/tributary/tributary/merge/ListOrder$Element", "placedAsIn", "(I)Z"⟩ : MethodName) (head1 (Jvm.Cond.code (⟨"com/example/tributary/tributary/merge/ListOrder$Element", "placedAsIn", "(I)Z"⟩ : MethodName) prog_30_method_5_code 2 (some .boolean) :: ws) ({ frames := 0, cells := 0, slots := 0, locals := 0 } : Room)) (fun a U => a = #[(.ref a1), (.int p2)] ∧ Z.Warmed39 U.vm ∧ U.heap = h0) (fun _ _ _ _ _ => True) (fun _ U o U' => ∃ v L, o = .returned v ∧ Q_pl Z a1 p2 b k h0 n0 v U'.heap L ∧ FrameEnd U o U' L ({ frames := 0, cells := 0, slots := 0, locals := 0 } : Room).cells ({ frames := 0, cells := 0, slots := 0, locals := 0 } : Room).slots) := by
  refine MetFree.of_bodySF (plainFor_of_name pn_pl) hisR ?_
  intro p e s m args below meth c s₁ Bd hml0 hP hK
  obtain ⟨rfl, hZ, hh⟩ := hP
  have hx := Bd.exec
  have hby := Bd.bytes
  have hml : c.maxLocals = 2 := hml0
  have hown : s.vm.findClass "com/example/tributary/tributary/merge/ListOrder$Element" = some m.cls := findClass_of_methodNamed Bd.named
  have hnm := (name_of_methodNamed Bd.named Bd.method).1
  have X0 : Stand p l e ({ frames := 0, cells := 0, slots := 0, locals := 0 } : Room) s m #[(.ref a1), (.int p2)] below meth c s₁ [] 0 0 := Stand.of_body Bd
  have e0 : s₁.heap = h0 := by rw [← hh, Bd.state]; rfl
  have N0 := Fr.nil n0
  have pre0 : ∀ t, Steps p.tables e below (s₁.setTop (mkF m 0 #[.val (.ref a1), .val (.int p2)] [])) t → Steps p.tables e below (s₁.setTop (entryFrame m #[(.ref a1), (.int p2)] 2)) t := fun t k => castTop (ef_pl m a1 p2) k
  have pre2 : ∀ t, Steps p.tables e below (s₁.setTop (mkF m 1 #[.val (.ref a1), .val (.int p2)] [(.ref a1)])) t → Steps p.tables e below (s₁.setTop (entryFrame m #[(.ref a1), (.int p2)] 2)) t := fun t k => pre0 t (by
    show Steps p.tables e below (s₁.setTop (mkF m 0 #[.val (.ref a1), .val (.int p2)] [])) _
    refine XS.aloadN X0.here hx rfl (hb hby dpl_0) rfl rfl ?_
    show Steps p.tables e below (s₁.setTop (mkF m 1 #[.val (.ref a1), .val (.int p2)] [(.ref a1)])) _
    exact k)
  obtain ⟨T3, X3, e3, st3⟩ := getF X0 hx hZ hown (host := "") (Or.inl (hw _ (List.mem_of_getElem? (i := 12) rfl))) Via.refl e0 F1 (g := (mkF m 1 #[.val (.ref a1), .val (.int p2)] [(.ref a1)])) rfl rfl (hb hby dpl_1)
  obtain ⟨cl4, Ar4, kc4, S4, M4, H4, G4⟩ := id V1
  have hin4 := inb_of S4 (j := p2) hi
  have hat4 : cl4.slots[(p2).toNatClampNeg]? = some .null := H4.at hin4 rfl
  have pre5 : ∀ t, Steps p.tables e below (T3.setTop (mkF m 27 #[.val (.ref a1), .val (.int p2)] [(.int (0 : Int32))])) t → Steps p.tables e below (s₁.setTop (entryFrame m #[(.ref a1), (.int p2)] 2)) t := fun t k => pre2 t (by
    show Steps p.tables e below (s₁.setTop (mkF m 1 #[.val (.ref a1), .val (.int p2)] [(.ref a1)])) _
    refine st3 _ ?_
    show Steps p.tables e below (T3.setTop (mkF m 4 #[.val (.ref a1), .val (.int p2)] [(.ref b)])) _
    refine XS.iloadN X3.here hx rfl (hb hby dpl_4) rfl ?_
    show Steps p.tables e below (T3.setTop (mkF m 5 #[.val (.ref a1), .val (.int p2)] [(.int p2), (.ref b)])) _
    refine X3.aaload hx (j := p2) (v := .null) (by rw [e3]; exact Ar4.1) (State.isArrayOf_alike hZ.alike Ar4.2.1) rfl Ar4.2.2 hin4 hat4 (g := (mkF m 5 #[.val (.ref a1), .val (.int p2)] [(.int p2), (.ref b)])) rfl rfl (hb hby dpl_5) _ ?_
    show Steps p.tables e below (T3.setTop (mkF m 6 #[.val (.ref a1), .val (.int p2)] [.null])) _
    refine XS.ifnullYes X3.here hx rfl (pc0 := 6) (pc' := 26) rfl (hb hby dpl_6) rfl (by decide) (by decide) ?_
    show Steps p.tables e below (T3.setTop (mkF m 26 #[.val (.ref a1), .val (.int p2)] [])) _
    refine XS.iconst X3.here hx rfl (hb hby dpl_26) ?_
    show Steps p.tables e below (T3.setTop (mkF m 27 #[.val (.ref a1), .val (.int p2)] [(.int (0 : Int32))])) _
    exact k)
  obtain ⟨fs, hr, hrun, hended, hW, hsame⟩ := X3.leave (v := some (.int (0 : Int32))) (fun h => by rw [Bd.returns] at h; cases h)
  refine ⟨_, _, pre5 _ ?_, hrun, hended, _, _, rfl, ?_, ⟨_, rfl⟩, hW, hsame.mono (by decide) (by decide)⟩
  · exact retN X3 hx (t := .boolean) Bd.returns (by simp) (hb hby dpl_27) hr
  · show Q_pl Z a1 p2 b k h0 n0 _ T3.heap _
    rw [e3]
    exact ⟨rfl, N0, rfl⟩
theorem own_mod3 (p : Int32) : ¬ ((p &&& (2147483647 : Int32)) % (3 : Int32)) < 0 ∧ ((p &&& (2147483647 : Int32)) % (3 : Int32)) < 3 := by
  have h1 := c_mask p 2147483647 31 (by decide) (by decide)
  have h2 := (c_irem (p &&& 2147483647) 3 3 (by decide)).1
  rw [Int32.lt_iff_toInt_lt, Int32.lt_iff_toInt_lt]
  have h3 : (0 : Int32).toInt = 0 := by decide
  have h4 : (3 : Int32).toInt = 3 := by decide
  rw [h3, h4]
  have h5 : 0 ≤ (p &&& 2147483647).toInt := by rw [h1]; omega
  have h6 := h2 h5
  omega
theorem own_mod3b {v : Int32} (h : ¬ v < 0 ∧ v < 3) : ¬ ((v + (1 : Int32)) % (3 : Int32)) < 0 ∧ ((v + (1 : Int32)) % (3 : Int32)) < 3 := by
  have h3 : (0 : Int32).toInt = 0 := by decide
  have h4 : (3 : Int32).toInt = 3 := by decide
  have h7 : (1 : Int32).toInt = 1 := by decide
  rw [Int32.lt_iff_toInt_lt, Int32.lt_iff_toInt_lt, h3, h4] at h
  have h1 := c_iadd v 1
  have h8 := rng32 (v + 1)
  have h2 := (c_irem (v + 1) 3 3 (by decide)).1
  rw [Int32.lt_iff_toInt_lt, Int32.lt_iff_toInt_lt, h3, h4]
  rw [h7] at h1
  have h6 := h2 (by omega)
  omega
theorem pd__I_Lcom_example_tributary_tributary_merge_Section_ : parseMethodDescriptor "(I)Lcom/example/tributary/tributary/merge/Section;" = some ⟨[.int], some (.object "com/example/tributary/tributary/merge/Section")⟩ := by decide +kernel
theorem pd__I_Z : parseMethodDescriptor "(I)Z" = some ⟨[.int], some .boolean⟩ := by decide +kernel
theorem pn_0 : plainName "com/example/tributary/tributary/merge/ElementPlacedAsInPinLaw" = true := by first | (simp [plainName, overriddenIn]; done) | decide +kernel
theorem ef_0 (m : MethodId) (p1 : Int32) : entryFrame m #[(.int p1)] maxLocals = (mkF m 0 #[.val (.int p1), .unset, .unset, .unset, .unset, .unset, .unset] []) := by first | (simp [entryFrame, mkF, argsToLocals, Value.category, maxLocals]; done) | rfl
def Q_0 (Z : State) (p1 : Int32) (w3 : Addr) (h0 : Heap) (n0 : Nat) (v : Option Value) (h : Heap) (L : List Loc) : Prop := v = some (.int 1) ∧ Fr n0 L
set_option maxRecDepth 65536 in
set_option maxHeartbeats 40000000 in
theorem rm_0 (l : Launch) (Z : State) (a0 : Array Value) (hw : ∀ d ∈ tables_1, d.before a0 Z = true) (ws : List Jvm.Cond) (p1 : Int32) (w3 : Addr) (h0 : Heap) (n0 : Nat) (Z0 : n0 ≤ h0.size) (S1 : Sta Z h0 "java/util/ArrayList" "DEFAULTCAPACITY_EMPTY_ELEMENTDATA" "[Ljava/lang/Object;" (.ref w3)) :
    MetFree l x (head1 (Jvm.Cond.code x code maxLocals ret :: ws) room_1) (fun a U => a = #[(.int p1)] ∧ Z.Warmed39 U.vm ∧ U.heap = h0) (fun _ _ _ _ _ => True) (fun _ U o U' => ∃ v L, o = .returned v ∧ Q_0 Z p1 w3 h0 n0 v U'.heap L ∧ FrameEnd U o U' L room_1.cells room_1.slots) := by
  refine MetFree.of_bodySF (plainFor_of_name pn_0) hisR ?_
  intro p e s m args below meth c s₁ Bd hml0 hP hK
  obtain ⟨rfl, hZ, hh⟩ := hP
  have hx := Bd.exec
  have hby := Bd.bytes
  have hml : c.maxLocals = 7 := hml0
  have hown : s.vm.findClass "com/example/tributary/tributary/merge/ElementPlacedAsInPinLaw" = some m.cls := findClass_of_methodNamed Bd.named
  have hnm := (name_of_methodNamed Bd.named Bd.method).1
  have X0 : Stand p l e room_1 s m #[(.int p1)] below meth c s₁ [] 0 0 := Stand.of_body Bd
  have e0 : s₁.heap = h0 := by rw [← hh, Bd.state]; rfl
  have N0 := Fr.nil n0
  have pre0 : ∀ t, Steps p.tables e below (s₁.setTop (mkF m 0 #[.val (.int p1), .unset, .unset, .unset, .unset, .unset, .unset] [])) t → Steps p.tables e below (s₁.setTop (entryFrame m #[(.int p1)] maxLocals)) t := fun t k => castTop (ef_0 m p1) k
  have pre2 : ∀ t, Steps p.tables e below (s₁.setTop (mkF m 13 #[.val (.int p1), .val (.int ((p1 &&& (2147483647 : Int32)) % (3 : Int32))), .val (.int ((((p1 &&& (2147483647 : Int32)) % (3 : Int32)) + (1 : Int32)) % (3 : Int32))), .unset, .unset, .unset, .unset] [])) t → Steps p.tables e below (s₁.setTop (entryFrame m #[(.int p1)] maxLocals)) t := fun t k => pre0 t (by
    show Steps p.tables e below (s₁.setTop (mkF m 0 #[.val (.int p1), .unset, .unset, .unset, .unset, .unset, .unset] [])) _
    refine XS.iloadN X0.here hx rfl (hb hby at_0) rfl ?_
    show Steps p.tables e below (s₁.setTop (mkF m 1 #[.val (.int p1), .unset, .unset, .unset, .unset, .unset, .unset] [(.int p1)])) _
    refine X0.ldcI hx hown (mvT hZ (hw _ (List.mem_of_getElem? (i := 0) rfl))) rfl (hb hby at_1) ?_
    show Steps p.tables e below (s₁.setTop (mkF m 3 #[.val (.int p1), .unset, .unset, .unset, .unset, .unset, .unset] [(.int (2147483647 : Int32)), (.int p1)])) _
    refine XS.iand X0.here hx rfl (hb hby at_3) rfl ?_
    show Steps p.tables e below (s₁.setTop (mkF m 4 #[.val (.int p1), .unset, .unset, .unset, .unset, .unset, .unset] [(.int (p1 &&& (2147483647 : Int32)))])) _
    refine XS.iconst X0.here hx rfl (hb hby at_4) ?_
    show Steps p.tables e below (s₁.setTop (mkF m 5 #[.val (.int p1), .unset, .unset, .unset, .unset, .unset, .unset] [(.int (3 : Int32)), (.int (p1 &&& (2147483647 : Int32)))])) _
    refine XS.irem X0.here hx rfl (hb hby at_5) rfl (by decide) ?_
    show Steps p.tables e below (s₁.setTop (mkF m 6 #[.val (.int p1), .unset, .unset, .unset, .unset, .unset, .unset] [(.int ((p1 &&& (2147483647 : Int32)) - ((p1 &&& (2147483647 : Int32)) / (3 : Int32)) * (3 : Int32)))])) _
    rw [own_irem]
    show Steps p.tables e below (s₁.setTop (mkF m 6 #[.val (.int p1), .unset, .unset, .unset, .unset, .unset, .unset] [(.int ((p1 &&& (2147483647 : Int32)) % (3 : Int32)))])) _
    refine XS.istoreN X0.here hx rfl (hb hby at_6) rfl (l' := #[.val (.int p1), .val (.int ((p1 &&& (2147483647 : Int32)) % (3 : Int32))), .unset, .unset, .unset, .unset, .unset]) rfl ?_
    show Steps p.tables e below (s₁.setTop (mkF m 7 #[.val (.int p1), .val (.int ((p1 &&& (2147483647 : Int32)) % (3 : Int32))), .unset, .unset, .unset, .unset, .unset] [])) _
    refine XS.iloadN X0.here hx rfl (hb hby at_7) rfl ?_
    show Steps p.tables e below (s₁.setTop (mkF m 8 #[.val (.int p1), .val (.int ((p1 &&& (2147483647 : Int32)) % (3 : Int32))), .unset, .unset, .unset, .unset, .unset] [(.int ((p1 &&& (2147483647 : Int32)) % (3 : Int32)))])) _
    refine XS.iconst X0.here hx rfl (hb hby at_8) ?_
    show Steps p.tables e below (s₁.setTop (mkF m 9 #[.val (.int p1), .val (.int ((p1 &&& (2147483647 : Int32)) % (3 : Int32))), .unset, .unset, .unset, .unset, .unset] [(.int (1 : Int32)), (.int ((p1 &&& (2147483647 : Int32)) % (3 : Int32)))])) _
    refine XS.iadd X0.here hx rfl (hb hby at_9) rfl ?_
    show Steps p.tables e below (s₁.setTop (mkF m 10 #[.val (.int p1), .val (.int ((p1 &&& (2147483647 : Int32)) % (3 : Int32))), .unset, .unset, .unset, .unset, .unset] [(.int (((p1 &&& (2147483647 : Int32)) % (3 : Int32)) + (1 : Int32)))])) _
    refine XS.iconst X0.here hx rfl (hb hby at_10) ?_
    show Steps p.tables e below (s₁.setTop (mkF m 11 #[.val (.int p1), .val (.int ((p1 &&& (2147483647 : Int32)) % (3 : Int32))), .unset, .unset, .unset, .unset, .unset] [(.int (3 : Int32)), (.int (((p1 &&& (2147483647 : Int32)) % (3 : Int32)) + (1 : Int32)))])) _
    refine XS.irem X0.here hx rfl (hb hby at_11) rfl (by decide) ?_
    show Steps p.tables e below (s₁.setTop (mkF m 12 #[.val (.int p1), .val (.int ((p1 &&& (2147483647 : Int32)) % (3 : Int32))), .unset, .unset, .unset, .unset, .unset] [(.int ((((p1 &&& (2147483647 : Int32)) % (3 : Int32)) + (1 : Int32)) - ((((p1 &&& (2147483647 : Int32)) % (3 : Int32)) + (1 : Int32)) / (3 : Int32)) * (3 : Int32)))])) _
    rw [own_irem]
    show Steps p.tables e below (s₁.setTop (mkF m 12 #[.val (.int p1), .val (.int ((p1 &&& (2147483647 : Int32)) % (3 : Int32))), .unset, .unset, .unset, .unset, .unset] [(.int ((((p1 &&& (2147483647 : Int32)) % (3 : Int32)) + (1 : Int32)) % (3 : Int32)))])) _
    refine XS.istoreN X0.here hx rfl (hb hby at_12) rfl (l' := #[.val (.int p1), .val (.int ((p1 &&& (2147483647 : Int32)) % (3 : Int32))), .val (.int ((((p1 &&& (2147483647 : Int32)) % (3 : Int32)) + (1 : Int32)) % (3 : Int32))), .unset, .unset, .unset, .unset]) rfl ?_
    show Steps p.tables e below (s₁.setTop (mkF m 13 #[.val (.int p1), .val (.int ((p1 &&& (2147483647 : Int32)) % (3 : Int32))), .val (.int ((((p1 &&& (2147483647 : Int32)) % (3 : Int32)) + (1 : Int32)) % (3 : Int32))), .unset, .unset, .unset, .unset] [])) _
    exact k)
  obtain ⟨T3, h3, X3, e3, E3, A3, D3, -, st3⟩ := newO X0 hx hZ hown (hw _ (List.mem_of_getElem? (i := 1) rfl)) (hw _ (List.mem_of_getElem? (i := 2) rfl)) (hw _ (List.mem_of_getElem? (i := 3) rfl)) e0 (g := (mkF m 13 #[.val (.int p1), .val (.int ((p1 &&& (2147483647 : Int32)) % (3 : Int32))), .val (.int ((((p1 &&& (2147483647 : Int32)) % (3 : Int32)) + (1 : Int32)) % (3 : Int32))), .unset, .unset, .unset, .unset] [])) rfl (hb hby at_13) (by decide) (by decide)
  obtain ⟨b3, g3⟩ : ∃ z, z = h0.size := ⟨_, rfl⟩
  rw [← g3] at A3 D3 st3
  have g_b3 : n0 ≤ b3 := Nat.le_trans Z0 (Nat.le_of_eq g3.symm)
  have Z3 : n0 ≤ h3.size := Nat.le_trans Z0 E3.1
  have f4_0 := S1.ext E3
  have F3_versions : Fld Z h3 b3 "com/example/tributary/tributary/merge/ListOrder$Element" "versions" "[Lcom/example/tributary/tributary/merge/Section;" .null := D3 (Or.inr (hw _ (List.mem_of_getElem? (i := 13) rfl))) (ty := (.array (.object "com/example/tributary/tributary/merge/Section"))) (by decide)
  have F3_indices : Fld Z h3 b3 "com/example/tributary/tributary/merge/ListOrder$Element" "indices" "[I" .null := D3 (Or.inr (hw _ (List.mem_of_getElem? (i := 16) rfl))) (ty := (.array .int)) (by decide)
  have F3_follows : Fld Z h3 b3 "com/example/tributary/tributary/merge/ListOrder$Element" "follows" "[I" .null := D3 (Or.inr (hw _ (List.mem_of_getElem? (i := 18) rfl))) (ty := (.array .int)) (by decide)
  have F3_taken : Fld Z h3 b3 "com/example/tributary/tributary/merge/ListOrder$Element" "taken" "Ljava/util/List;" .null := D3 (Or.inr (hw _ (List.mem_of_getElem? (i := 44) rfl))) (ty := (.object "java/util/List")) (by decide)
  have F3_anchor : Fld Z h3 b3 "com/example/tributary/tributary/merge/ListOrder$Element" "anchor" "I" (.int (0 : Int32)) := D3 (Or.inl (hw _ (List.mem_of_getElem? (i := 56) rfl))) (ty := .int) (by decide)
  have pre5 : ∀ t, Steps p.tables e below (T3.setTop (mkF m 17 #[.val (.int p1), .val (.int ((p1 &&& (2147483647 : Int32)) % (3 : Int32))), .val (.int ((((p1 &&& (2147483647 : Int32)) % (3 : Int32)) + (1 : Int32)) % (3 : Int32))), .unset, .unset, .unset, .unset] [(.ref b3), (.ref b3)])) t → Steps p.tables e below (s₁.setTop (entryFrame m #[(.int p1)] maxLocals)) t := fun t k => pre2 t (by
    show Steps p.tables e below (s₁.setTop (mkF m 13 #[.val (.int p1), .val (.int ((p1 &&& (2147483647 : Int32)) % (3 : Int32))), .val (.int ((((p1 &&& (2147483647 : Int32)) % (3 : Int32)) + (1 : Int32)) % (3 : Int32))), .unset, .unset, .unset, .unset] [])) _
    refine st3 _ ?_
    show Steps p.tables e below (T3.setTop (mkF m 16 #[.val (.int p1), .val (.int ((p1 &&& (2147483647 : Int32)) % (3 : Int32))), .val (.int ((((p1 &&& (2147483647 : Int32)) % (3 : Int32)) + (1 : Int32)) % (3 : Int32))), .unset, .unset, .unset, .unset] [(.ref b3)])) _
    refine XS.dup X3.here hx rfl (hb hby at_16) rfl rfl ?_
    show Steps p.tables e below (T3.setTop (mkF m 17 #[.val (.int p1), .val (.int ((p1 &&& (2147483647 : Int32)) % (3 : Int32))), .val (.int ((((p1 &&& (2147483647 : Int32)) % (3 : Int32)) + (1 : Int32)) % (3 : Int32))), .unset, .unset, .unset, .unset] [(.ref b3), (.ref b3)])) _
    exact k)
  obtain ⟨_, _, ⟨T6, L6, kk6, nn6⟩, -, X6, ⟨Lc6, hQ6, l6, y6, z6⟩, st6⟩ := X3.specialBack hx (y := (⟨"com/example/tributary/tributary/merge/ListOrder$Element", "<init>", "()V"⟩ : MethodName)) rfl hown (mvT hZ (hw _ (List.mem_of_getElem? (i := 4) rfl))) (mvT hZ (hw _ (List.mem_of_getElem? (i := 5) rfl))) (mvT hZ (hw _ (List.mem_of_getElem? (i := 6) rfl))) (by decide) (backOf (W := 1) (rm_el l Z a0 hw [] b3 w3 _ _ _ _ _ h3 n0 Z3 f4_0 A3 F3_versions F3_indices F3_follows F3_taken F3_anchor g_b3) hZ (hw _ (List.mem_of_getElem? (i := 6) rfl)) (hw _ (List.mem_of_getElem? (i := 3) rfl)) (by decide) (by decide)) (g := (mkF m 17 #[.val (.int p1), .val (.int ((p1 &&& (2147483647 : Int32)) % (3 : Int32))), .val (.int ((((p1 &&& (2147483647 : Int32)) % (3 : Int32)) + (1 : Int32)) % (3 : Int32))), .unset, .unset, .unset, .unset] [(.ref b3), (.ref b3)])) rfl (by rw [hml]; rfl) (Steps.refl _) (a := b3) (argsL := []) (rest := [(.ref b3)]) (lenOf pd___V rfl) rfl (by show 2 * 0 + _ ≤ _; exact Nat.le_of_eq rfl) (hb hby at_17) (fun _ _ => ⟨rfl, e3, (by decide : 1 + 4 ≤ _), (by decide : 9 + 12 ≤ _)⟩)
  dsimp only [Pt.U, Pt.locs, Pt.cells, Pt.slots] at X6 l6 y6 z6 st6 hQ6
  subst l6 y6 z6
  obtain ⟨rfl, N6q, Kc6, bv6, kv6, Fv6, Vv6⟩ := hQ6
  have N6 := Fr.app N0 N6q
  have f7_0 := own_sta_keep f4_0 Kc6 (by intro x hx; simp only [List.mem_cons, List.not_mem_nil, or_false] at hx; rcases hx with rfl; exact own_ns_exa A3)
  have f7_1 := A3.keep Kc6
  have Z6 : n0 ≤ T6.heap.size := Nat.le_trans Z3 Kc6.1
  have e6 : T6.heap = T6.heap := rfl
  have hv : ¬ ((p1 &&& (2147483647 : Int32)) % (3 : Int32)) < 0 ∧ ((p1 &&& (2147483647 : Int32)) % (3 : Int32)) < 3 := own_mod3 p1
  have hv2 : ¬ (((p1 &&& (2147483647 : Int32)) % (3 : Int32) + (1 : Int32)) % (3 : Int32)) < 0 ∧ (((p1 &&& (2147483647 : Int32)) % (3 : Int32) + (1 : Int32)) % (3 : Int32)) < 3 := own_mod3b hv
  have pre8 : ∀ t, Steps p.tables e below (T6.setTop (mkF m 23 #[.val (.int p1), .val (.int ((p1 &&& (2147483647 : Int32)) % (3 : Int32))), .val (.int ((((p1 &&& (2147483647 : Int32)) % (3 : Int32)) + (1 : Int32)) % (3 : Int32))), .val (.ref b3), .unset, .unset, .unset] [(.int ((p1 &&& (2147483647 : Int32)) % (3 : Int32))), (.ref b3)])) t → Steps p.tables e below (s₁.setTop (entryFrame m #[(.int p1)] maxLocals)) t := fun t k => pre5 t (by
    show Steps p.tables e below (T3.setTop (mkF m 17 #[.val (.int p1), .val (.int ((p1 &&& (2147483647 : Int32)) % (3 : Int32))), .val (.int ((((p1 &&& (2147483647 : Int32)) % (3 : Int32)) + (1 : Int32)) % (3 : Int32))), .unset, .unset, .unset, .unset] [(.ref b3), (.ref b3)])) _
    refine st6.trans ?_
    show Steps p.tables e below (T6.setTop (mkF m 20 #[.val (.int p1), .val (.int ((p1 &&& (2147483647 : Int32)) % (3 : Int32))), .val (.int ((((p1 &&& (2147483647 : Int32)) % (3 : Int32)) + (1 : Int32)) % (3 : Int32))), .unset, .unset, .unset, .unset] [(.ref b3)])) _
    refine XS.astoreN X6.here hx rfl (hb hby at_20) rfl rfl (l' := #[.val (.int p1), .val (.int ((p1 &&& (2147483647 : Int32)) % (3 : Int32))), .val (.int ((((p1 &&& (2147483647 : Int32)) % (3 : Int32)) + (1 : Int32)) % (3 : Int32))), .val (.ref b3), .unset, .unset, .unset]) rfl ?_
    show Steps p.tables e below (T6.setTop (mkF m 21 #[.val (.int p1), .val (.int ((p1 &&& (2147483647 : Int32)) % (3 : Int32))), .val (.int ((((p1 &&& (2147483647 : Int32)) % (3 : Int32)) + (1 : Int32)) % (3 : Int32))), .val (.ref b3), .unset, .unset, .unset] [])) _
    refine XS.aloadN X6.here hx rfl (hb hby at_21) rfl rfl ?_
    show Steps p.tables e below (T6.setTop (mkF m 22 #[.val (.int p1), .val (.int ((p1 &&& (2147483647 : Int32)) % (3 : Int32))), .val (.int ((((p1 &&& (2147483647 : Int32)) % (3 : Int32)) + (1 : Int32)) % (3 : Int32))), .val (.ref b3), .unset, .unset, .unset] [(.ref b3)])) _
    refine XS.iloadN X6.here hx rfl (hb hby at_22) rfl ?_
    show Steps p.tables e below (T6.setTop (mkF m 23 #[.val (.int p1), .val (.int ((p1 &&& (2147483647 : Int32)) % (3 : Int32))), .val (.int ((((p1 &&& (2147483647 : Int32)) % (3 : Int32)) + (1 : Int32)) % (3 : Int32))), .val (.ref b3), .unset, .unset, .unset] [(.int ((p1 &&& (2147483647 : Int32)) % (3 : Int32))), (.ref b3)])) _
    exact k)
  obtain ⟨cq9, kq9, q9a, q9b, q9c⟩ := isOf hZ e6 f7_1
  obtain ⟨_, _, ⟨T9, L9, kk9, nn9⟩, -, X9, ⟨Lc9, hQ9, l9, y9, z9⟩, st9⟩ := X6.virtualBack hx (y := (⟨"com/example/tributary/tributary/merge/ListOrder$Element", "in", "(I)Lcom/example/tributary/tributary/merge/Section;"⟩ : MethodName)) (z := (⟨"com/example/tributary/tributary/merge/ListOrder$Element", "in", "(I)Lcom/example/tributary/tributary/merge/Section;"⟩ : MethodName)) hown (mvT hZ (hw _ (List.mem_of_getElem? (i := 45) rfl))) (mvT hZ (hw _ (List.mem_of_getElem? (i := 46) rfl))) (notFace_of_selects (args := #[]) (mvT hZ (hw _ (List.mem_of_getElem? (i := 48) rfl)))) (mvT hZ (hw _ (List.mem_of_getElem? (i := 48) rfl))) (mvT hZ (hw _ (List.mem_of_getElem? (i := 47) rfl))) (by decide) (backOf (W := 0) (rm_in l Z a0 hw [] b3 ((p1 &&& (2147483647 : Int32)) % (3 : Int32)) bv6 kv6 T6.heap n0 Z6 Fv6 Vv6 hv) hZ (hw _ (List.mem_of_getElem? (i := 49) rfl)) (hw _ (List.mem_of_getElem? (i := 3) rfl)) (by decide) (by decide)) q9a q9c (g := (mkF m 23 #[.val (.int p1), .val (.int ((p1 &&& (2147483647 : Int32)) % (3 : Int32))), .val (.int ((((p1 &&& (2147483647 : Int32)) % (3 : Int32)) + (1 : Int32)) % (3 : Int32))), .val (.ref b3), .unset, .unset, .unset] [(.int ((p1 &&& (2147483647 : Int32)) % (3 : Int32))), (.ref b3)])) rfl (by rw [hml]; rfl) (Steps.refl _) (argsL := [(.int ((p1 &&& (2147483647 : Int32)) % (3 : Int32)))]) (rest := []) (lenOf pd__I_Lcom_example_tributary_tributary_merge_Section_ rfl) rfl (by show 2 * 0 + _ ≤ _; exact Nat.le_of_eq rfl) (hb hby at_23) (fun _ _ => ⟨rfl, e6, (by decide : 5 + 0 ≤ _), (by decide : 21 + 0 ≤ _)⟩)
  dsimp only [Pt.U, Pt.locs, Pt.cells, Pt.slots] at X9 l9 y9 z9 st9 hQ9
  subst l9 y9 z9
  obtain ⟨rfl, N9q, eq9⟩ := hQ9
  have N9 := Fr.app N6 N9q
  have pre10 : ∀ t, Steps p.tables e below (T9.setTop (mkF m 38 #[.val (.int p1), .val (.int ((p1 &&& (2147483647 : Int32)) % (3 : Int32))), .val (.int ((((p1 &&& (2147483647 : Int32)) % (3 : Int32)) + (1 : Int32)) % (3 : Int32))), .val (.ref b3), .val (.int (1 : Int32)), .unset, .unset] [(.int ((p1 &&& (2147483647 : Int32)) % (3 : Int32))), (.ref b3)])) t → Steps p.tables e below (s₁.setTop (entryFrame m #[(.int p1)] maxLocals)) t := fun t k => pre8 t (by
    show Steps p.tables e below (T6.setTop (mkF m 23 #[.val (.int p1), .val (.int ((p1 &&& (2147483647 : Int32)) % (3 : Int32))), .val (.int ((((p1 &&& (2147483647 : Int32)) % (3 : Int32)) + (1 : Int32)) % (3 : Int32))), .val (.ref b3), .unset, .unset, .unset] [(.int ((p1 &&& (2147483647 : Int32)) % (3 : Int32))), (.ref b3)])) _
    refine st9.trans ?_
    show Steps p.tables e below (T9.setTop (mkF m 26 #[.val (.int p1), .val (.int ((p1 &&& (2147483647 : Int32)) % (3 : Int32))), .val (.int ((((p1 &&& (2147483647 : Int32)) % (3 : Int32)) + (1 : Int32)) % (3 : Int32))), .val (.ref b3), .unset, .unset, .unset] [.null])) _
    refine XT.ifnonnullNo X9.here hx rfl (hb hby at_26) rfl ?_
    show Steps p.tables e below (T9.setTop (mkF m 29 #[.val (.int p1), .val (.int ((p1 &&& (2147483647 : Int32)) % (3 : Int32))), .val (.int ((((p1 &&& (2147483647 : Int32)) % (3 : Int32)) + (1 : Int32)) % (3 : Int32))), .val (.ref b3), .unset, .unset, .unset] [])) _
    refine XS.iconst X9.here hx rfl (hb hby at_29) ?_
    show Steps p.tables e below (T9.setTop (mkF m 30 #[.val (.int p1), .val (.int ((p1 &&& (2147483647 : Int32)) % (3 : Int32))), .val (.int ((((p1 &&& (2147483647 : Int32)) % (3 : Int32)) + (1 : Int32)) % (3 : Int32))), .val (.ref b3), .unset, .unset, .unset] [(.int (1 : Int32))])) _
    refine XS.goto X9.here hx rfl (pc0 := 30) (pc' := 34) rfl (hb hby at_30) (by decide) (by decide) ?_
    show Steps p.tables e below (T9.setTop (mkF m 34 #[.val (.int p1), .val (.int ((p1 &&& (2147483647 : Int32)) % (3 : Int32))), .val (.int ((((p1 &&& (2147483647 : Int32)) % (3 : Int32)) + (1 : Int32)) % (3 : Int32))), .val (.ref b3), .unset, .unset, .unset] [(.int (1 : Int32))])) _
    refine XS.istore X9.here hx rfl (hb hby at_34) rfl (l' := #[.val (.int p1), .val (.int ((p1 &&& (2147483647 : Int32)) % (3 : Int32))), .val (.int ((((p1 &&& (2147483647 : Int32)) % (3 : Int32)) + (1 : Int32)) % (3 : Int32))), .val (.ref b3), .val (.int (1 : Int32)), .unset, .unset]) rfl ?_
    show Steps p.tables e below (T9.setTop (mkF m 36 #[.val (.int p1), .val (.int ((p1 &&& (2147483647 : Int32)) % (3 : Int32))), .val (.int ((((p1 &&& (2147483647 : Int32)) % (3 : Int32)) + (1 : Int32)) % (3 : Int32))), .val (.ref b3), .val (.int (1 : Int32)), .unset, .unset] [])) _
    refine XS.aloadN X9.here hx rfl (hb hby at_36) rfl rfl ?_
    show Steps p.tables e below (T9.setTop (mkF m 37 #[.val (.int p1), .val (.int ((p1 &&& (2147483647 : Int32)) % (3 : Int32))), .val (.int ((((p1 &&& (2147483647 : Int32)) % (3 : Int32)) + (1 : Int32)) % (3 : Int32))), .val (.ref b3), .val (.int (1 : Int32)), .unset, .unset] [(.ref b3)])) _
    refine XS.iloadN X9.here hx rfl (hb hby at_37) rfl ?_
    show Steps p.tables e below (T9.setTop (mkF m 38 #[.val (.int p1), .val (.int ((p1 &&& (2147483647 : Int32)) % (3 : Int32))), .val (.int ((((p1 &&& (2147483647 : Int32)) % (3 : Int32)) + (1 : Int32)) % (3 : Int32))), .val (.ref b3), .val (.int (1 : Int32)), .unset, .unset] [(.int ((p1 &&& (2147483647 : Int32)) % (3 : Int32))), (.ref b3)])) _
    exact k)
  obtain ⟨cq11, kq11, q11a, q11b, q11c⟩ := isOf hZ eq9 f7_1
  obtain ⟨_, _, ⟨T11, L11, kk11, nn11⟩, -, X11, ⟨Lc11, hQ11, l11, y11, z11⟩, st11⟩ := X9.virtualBack hx (y := (⟨"com/example/tributary/tributary/merge/ListOrder$Element", "placedAsIn", "(I)Z"⟩ : MethodName)) (z := (⟨"com/example/tributary/tributary/merge/ListOrder$Element", "placedAsIn", "(I)Z"⟩ : MethodName)) hown (mvT hZ (hw _ (List.mem_of_getElem? (i := 50) rfl))) (mvT hZ (hw _ (List.mem_of_getElem? (i := 51) rfl))) (notFace_of_selects (args := #[]) (mvT hZ (hw _ (List.mem_of_getElem? (i := 53) rfl)))) (mvT hZ (hw _ (List.mem_of_getElem? (i := 53) rfl))) (mvT hZ (hw _ (List.mem_of_getElem? (i := 52) rfl))) (by decide) (backOf (W := 0) (rm_pl l Z a0 hw [] b3 ((p1 &&& (2147483647 : Int32)) % (3 : Int32)) bv6 kv6 T6.heap n0 Z6 Fv6 Vv6 hv) hZ (hw _ (List.mem_of_getElem? (i := 54) rfl)) (hw _ (List.mem_of_getElem? (i := 3) rfl)) (by decide) (by decide)) q11a q11c (g := (mkF m 38 #[.val (.int p1), .val (.int ((p1 &&& (2147483647 : Int32)) % (3 : Int32))), .val (.int ((((p1 &&& (2147483647 : Int32)) % (3 : Int32)) + (1 : Int32)) % (3 : Int32))), .val (.ref b3), .val (.int (1 : Int32)), .unset, .unset] [(.int ((p1 &&& (2147483647 : Int32)) % (3 : Int32))), (.ref b3)])) rfl (by rw [hml]; rfl) (Steps.refl _) (argsL := [(.int ((p1 &&& (2147483647 : Int32)) % (3 : Int32)))]) (rest := []) (lenOf pd__I_Z rfl) rfl (by show 2 * 0 + _ ≤ _; exact Nat.le_of_eq rfl) (hb hby at_38) (fun _ _ => ⟨rfl, eq9, (by decide : 5 + 0 ≤ _), (by decide : 21 + 0 ≤ _)⟩)
  dsimp only [Pt.U, Pt.locs, Pt.cells, Pt.slots] at X11 l11 y11 z11 st11 hQ11
  subst l11 y11 z11
  obtain ⟨rfl, N11q, eq11⟩ := hQ11
  have N11 := Fr.app N9 N11q
  have pre12 : ∀ t, Steps p.tables e below (T11.setTop (mkF m 45 #[.val (.int p1), .val (.int ((p1 &&& (2147483647 : Int32)) % (3 : Int32))), .val (.int ((((p1 &&& (2147483647 : Int32)) % (3 : Int32)) + (1 : Int32)) % (3 : Int32))), .val (.ref b3), .val (.int (1 : Int32)), .val (.int (0 : Int32)), .unset] [(.int ((((p1 &&& (2147483647 : Int32)) % (3 : Int32)) + (1 : Int32)) % (3 : Int32))), (.ref b3)])) t → Steps p.tables e below (s₁.setTop (entryFrame m #[(.int p1)] maxLocals)) t := fun t k => pre10 t (by
    show Steps p.tables e below (T9.setTop (mkF m 38 #[.val (.int p1), .val (.int ((p1 &&& (2147483647 : Int32)) % (3 : Int32))), .val (.int ((((p1 &&& (2147483647 : Int32)) % (3 : Int32)) + (1 : Int32)) % (3 : Int32))), .val (.ref b3), .val (.int (1 : Int32)), .unset, .unset] [(.int ((p1 &&& (2147483647 : Int32)) % (3 : Int32))), (.ref b3)])) _
    refine st11.trans ?_
    show Steps p.tables e below (T11.setTop (mkF m 41 #[.val (.int p1), .val (.int ((p1 &&& (2147483647 : Int32)) % (3 : Int32))), .val (.int ((((p1 &&& (2147483647 : Int32)) % (3 : Int32)) + (1 : Int32)) % (3 : Int32))), .val (.ref b3), .val (.int (1 : Int32)), .unset, .unset] [(.int (0 : Int32))])) _
    refine XS.istore X11.here hx rfl (hb hby at_41) rfl (l' := #[.val (.int p1), .val (.int ((p1 &&& (2147483647 : Int32)) % (3 : Int32))), .val (.int ((((p1 &&& (2147483647 : Int32)) % (3 : Int32)) + (1 : Int32)) % (3 : Int32))), .val (.ref b3), .val (.int (1 : Int32)), .val (.int (0 : Int32)), .unset]) rfl ?_
    show Steps p.tables e below (T11.setTop (mkF m 43 #[.val (.int p1), .val (.int ((p1 &&& (2147483647 : Int32)) % (3 : Int32))), .val (.int ((((p1 &&& (2147483647 : Int32)) % (3 : Int32)) + (1 : Int32)) % (3 : Int32))), .val (.ref b3), .val (.int (1 : Int32)), .val (.int (0 : Int32)), .unset] [])) _
    refine XS.aloadN X11.here hx rfl (hb hby at_43) rfl rfl ?_
    show Steps p.tables e below (T11.setTop (mkF m 44 #[.val (.int p1), .val (.int ((p1 &&& (2147483647 : Int32)) % (3 : Int32))), .val (.int ((((p1 &&& (2147483647 : Int32)) % (3 : Int32)) + (1 : Int32)) % (3 : Int32))), .val (.ref b3), .val (.int (1 : Int32)), .val (.int (0 : Int32)), .unset] [(.ref b3)])) _
    refine XS.iloadN X11.here hx rfl (hb hby at_44) rfl ?_
    show Steps p.tables e below (T11.setTop (mkF m 45 #[.val (.int p1), .val (.int ((p1 &&& (2147483647 : Int32)) % (3 : Int32))), .val (.int ((((p1 &&& (2147483647 : Int32)) % (3 : Int32)) + (1 : Int32)) % (3 : Int32))), .val (.ref b3), .val (.int (1 : Int32)), .val (.int (0 : Int32)), .unset] [(.int ((((p1 &&& (2147483647 : Int32)) % (3 : Int32)) + (1 : Int32)) % (3 : Int32))), (.ref b3)])) _
    exact k)
  obtain ⟨cq13, kq13, q13a, q13b, q13c⟩ := isOf hZ eq11 f7_1
  obtain ⟨_, _, ⟨T13, L13, kk13, nn13⟩, -, X13, ⟨Lc13, hQ13, l13, y13, z13⟩, st13⟩ := X11.virtualBack hx (y := (⟨"com/example/tributary/tributary/merge/ListOrder$Element", "placedAsIn", "(I)Z"⟩ : MethodName)) (z := (⟨"com/example/tributary/tributary/merge/ListOrder$Element", "placedAsIn", "(I)Z"⟩ : MethodName)) hown (mvT hZ (hw _ (List.mem_of_getElem? (i := 50) rfl))) (mvT hZ (hw _ (List.mem_of_getElem? (i := 51) rfl))) (notFace_of_selects (args := #[]) (mvT hZ (hw _ (List.mem_of_getElem? (i := 53) rfl)))) (mvT hZ (hw _ (List.mem_of_getElem? (i := 53) rfl))) (mvT hZ (hw _ (List.mem_of_getElem? (i := 52) rfl))) (by decide) (backOf (W := 0) (rm_pl l Z a0 hw [] b3 ((((p1 &&& (2147483647 : Int32)) % (3 : Int32)) + (1 : Int32)) % (3 : Int32)) bv6 kv6 T6.heap n0 Z6 Fv6 Vv6 hv2) hZ (hw _ (List.mem_of_getElem? (i := 54) rfl)) (hw _ (List.mem_of_getElem? (i := 3) rfl)) (by decide) (by decide)) q13a q13c (g := (mkF m 45 #[.val (.int p1), .val (.int ((p1 &&& (2147483647 : Int32)) % (3 : Int32))), .val (.int ((((p1 &&& (2147483647 : Int32)) % (3 : Int32)) + (1 : Int32)) % (3 : Int32))), .val (.ref b3), .val (.int (1 : Int32)), .val (.int (0 : Int32)), .unset] [(.int ((((p1 &&& (2147483647 : Int32)) % (3 : Int32)) + (1 : Int32)) % (3 : Int32))), (.ref b3)])) rfl (by rw [hml]; rfl) (Steps.refl _) (argsL := [(.int ((((p1 &&& (2147483647 : Int32)) % (3 : Int32)) + (1 : Int32)) % (3 : Int32)))]) (rest := []) (lenOf pd__I_Z rfl) rfl (by show 2 * 0 + _ ≤ _; exact Nat.le_of_eq rfl) (hb hby at_45) (fun _ _ => ⟨rfl, eq11, (by decide : 5 + 0 ≤ _), (by decide : 21 + 0 ≤ _)⟩)
  dsimp only [Pt.U, Pt.locs, Pt.cells, Pt.slots] at X13 l13 y13 z13 st13 hQ13
  subst l13 y13 z13
  obtain ⟨rfl, N13q, eq13⟩ := hQ13
  have N13 := Fr.app N11 N13q
  have pre14 : ∀ t, Steps p.tables e below (T13.setTop (mkF m 70 #[.val (.int p1), .val (.int ((p1 &&& (2147483647 : Int32)) % (3 : Int32))), .val (.int ((((p1 &&& (2147483647 : Int32)) % (3 : Int32)) + (1 : Int32)) % (3 : Int32))), .val (.ref b3), .val (.int (1 : Int32)), .val (.int (0 : Int32)), .val (.int (0 : Int32))] [(.int (1 : Int32))])) t → Steps p.tables e below (s₁.setTop (entryFrame m #[(.int p1)] maxLocals)) t := fun t k => pre12 t (by
    show Steps p.tables e below (T11.setTop (mkF m 45 #[.val (.int p1), .val (.int ((p1 &&& (2147483647 : Int32)) % (3 : Int32))), .val (.int ((((p1 &&& (2147483647 : Int32)) % (3 : Int32)) + (1 : Int32)) % (3 : Int32))), .val (.ref b3), .val (.int (1 : Int32)), .val (.int (0 : Int32)), .unset] [(.int ((((p1 &&& (2147483647 : Int32)) % (3 : Int32)) + (1 : Int32)) % (3 : Int32))), (.ref b3)])) _
    refine st13.trans ?_
    show Steps p.tables e below (T13.setTop (mkF m 48 #[.val (.int p1), .val (.int ((p1 &&& (2147483647 : Int32)) % (3 : Int32))), .val (.int ((((p1 &&& (2147483647 : Int32)) % (3 : Int32)) + (1 : Int32)) % (3 : Int32))), .val (.ref b3), .val (.int (1 : Int32)), .val (.int (0 : Int32)), .unset] [(.int (0 : Int32))])) _
    refine XS.istore X13.here hx rfl (hb hby at_48) rfl (l' := #[.val (.int p1), .val (.int ((p1 &&& (2147483647 : Int32)) % (3 : Int32))), .val (.int ((((p1 &&& (2147483647 : Int32)) % (3 : Int32)) + (1 : Int32)) % (3 : Int32))), .val (.ref b3), .val (.int (1 : Int32)), .val (.int (0 : Int32)), .val (.int (0 : Int32))]) rfl ?_
    show Steps p.tables e below (T13.setTop (mkF m 50 #[.val (.int p1), .val (.int ((p1 &&& (2147483647 : Int32)) % (3 : Int32))), .val (.int ((((p1 &&& (2147483647 : Int32)) % (3 : Int32)) + (1 : Int32)) % (3 : Int32))), .val (.ref b3), .val (.int (1 : Int32)), .val (.int (0 : Int32)), .val (.int (0 : Int32))] [])) _
    refine XS.iload X13.here hx rfl (hb hby at_50) rfl ?_
    show Steps p.tables e below (T13.setTop (mkF m 52 #[.val (.int p1), .val (.int ((p1 &&& (2147483647 : Int32)) % (3 : Int32))), .val (.int ((((p1 &&& (2147483647 : Int32)) % (3 : Int32)) + (1 : Int32)) % (3 : Int32))), .val (.ref b3), .val (.int (1 : Int32)), .val (.int (0 : Int32)), .val (.int (0 : Int32))] [(.int (1 : Int32))])) _
    refine XS.ifNo X13.here hx rfl (hb hby at_52) rfl (by decide) ?_
    show Steps p.tables e below (T13.setTop (mkF m 55 #[.val (.int p1), .val (.int ((p1 &&& (2147483647 : Int32)) % (3 : Int32))), .val (.int ((((p1 &&& (2147483647 : Int32)) % (3 : Int32)) + (1 : Int32)) % (3 : Int32))), .val (.ref b3), .val (.int (1 : Int32)), .val (.int (0 : Int32)), .val (.int (0 : Int32))] [])) _
    refine XS.iload X13.here hx rfl (hb hby at_55) rfl ?_
    show Steps p.tables e below (T13.setTop (mkF m 57 #[.val (.int p1), .val (.int ((p1 &&& (2147483647 : Int32)) % (3 : Int32))), .val (.int ((((p1 &&& (2147483647 : Int32)) % (3 : Int32)) + (1 : Int32)) % (3 : Int32))), .val (.ref b3), .val (.int (1 : Int32)), .val (.int (0 : Int32)), .val (.int (0 : Int32))] [(.int (0 : Int32))])) _
    refine XS.ifNo X13.here hx rfl (hb hby at_57) rfl (by decide) ?_
    show Steps p.tables e below (T13.setTop (mkF m 60 #[.val (.int p1), .val (.int ((p1 &&& (2147483647 : Int32)) % (3 : Int32))), .val (.int ((((p1 &&& (2147483647 : Int32)) % (3 : Int32)) + (1 : Int32)) % (3 : Int32))), .val (.ref b3), .val (.int (1 : Int32)), .val (.int (0 : Int32)), .val (.int (0 : Int32))] [])) _
    refine XS.iload X13.here hx rfl (hb hby at_60) rfl ?_
    show Steps p.tables e below (T13.setTop (mkF m 62 #[.val (.int p1), .val (.int ((p1 &&& (2147483647 : Int32)) % (3 : Int32))), .val (.int ((((p1 &&& (2147483647 : Int32)) % (3 : Int32)) + (1 : Int32)) % (3 : Int32))), .val (.ref b3), .val (.int (1 : Int32)), .val (.int (0 : Int32)), .val (.int (0 : Int32))] [(.int (0 : Int32))])) _
    refine XS.ifNo X13.here hx rfl (hb hby at_62) rfl (by decide) ?_
    show Steps p.tables e below (T13.setTop (mkF m 65 #[.val (.int p1), .val (.int ((p1 &&& (2147483647 : Int32)) % (3 : Int32))), .val (.int ((((p1 &&& (2147483647 : Int32)) % (3 : Int32)) + (1 : Int32)) % (3 : Int32))), .val (.ref b3), .val (.int (1 : Int32)), .val (.int (0 : Int32)), .val (.int (0 : Int32))] [])) _
    refine XS.iconst X13.here hx rfl (hb hby at_65) ?_
    show Steps p.tables e below (T13.setTop (mkF m 66 #[.val (.int p1), .val (.int ((p1 &&& (2147483647 : Int32)) % (3 : Int32))), .val (.int ((((p1 &&& (2147483647 : Int32)) % (3 : Int32)) + (1 : Int32)) % (3 : Int32))), .val (.ref b3), .val (.int (1 : Int32)), .val (.int (0 : Int32)), .val (.int (0 : Int32))] [(.int (1 : Int32))])) _
    refine XS.goto X13.here hx rfl (pc0 := 66) (pc' := 70) rfl (hb hby at_66) (by decide) (by decide) ?_
    show Steps p.tables e below (T13.setTop (mkF m 70 #[.val (.int p1), .val (.int ((p1 &&& (2147483647 : Int32)) % (3 : Int32))), .val (.int ((((p1 &&& (2147483647 : Int32)) % (3 : Int32)) + (1 : Int32)) % (3 : Int32))), .val (.ref b3), .val (.int (1 : Int32)), .val (.int (0 : Int32)), .val (.int (0 : Int32))] [(.int (1 : Int32))])) _
    exact k)
  obtain ⟨fs, hr, hrun, hended, hW, hsame⟩ := X13.leave (v := some (.int (1 : Int32))) (fun h => by rw [Bd.returns] at h; cases h)
  refine ⟨_, _, pre14 _ ?_, hrun, hended, _, _, rfl, ?_, ⟨_, rfl⟩, hW, hsame.mono (by decide) (by decide)⟩
  · exact retN X13 hx (t := .boolean) Bd.returns (by simp) (hb hby at_70) hr
  · show Q_0 Z p1 w3 h0 n0 _ T13.heap _
    skip
    exact ⟨rfl, N13⟩
theorem own_sets {a : Array Value} {s : State} (h : rest_1_c.before a s = true) : ∀ d ∈ jdkStatics_1, d.before a s = true := by
  rw [rest_1_c_eq] at h
  generalize jdkStatics_1 = L at h ⊢
  induction L with
  | nil => intro d hd; cases hd
  | cons c t ih =>
    intro d hd
    have h' : (Jvm.Cond.and c (t.foldr Cond.and restOwn_1)).before a s = true := h
    rw [Cond.before_and, Bool.and_eq_true] at h'
    rcases List.mem_cons.mp hd with rfl | hd
    · exact h'.1
    · exact ih h'.2 d hd
set_option maxRecDepth 65536 in
set_option maxHeartbeats 40000000 in
theorem comes_1 {Post : Tables → Env → Array Value → State → Outcome → State → Prop} (hpost : ∀ tb e args s v u, (limb_1_1.after args s (.returned v) u = true ∧ limb_1_2.after args s (.returned v) u = true ∧ True) → FrameEnd s (.returned v) u (Jvm.fieldLocs frame_1_writes args s ++ Jvm.arrayLocs frame_1_arrays args s ++ Jvm.staticLocs frame_1_statics s) 24 128 → Post tb e args s (.returned v) u) :
    ArmFor flags0 classFile x code maxLocals ret World_1 tables_1 room_1 Calls_1 rest_1 Pre_1 Post := by
  intro l hfl _ _ p e ha hc hk s m args below hf hA hF happ hP
  obtain ⟨hcalls, hrest, hpre⟩ := hP
  obtain ⟨-, -, -, hnamed, -, -, -, hat⟩ := (Spec.applies_iff hf).mp happ
  obtain ⟨hg, hn⟩ := and_e (Cond.before_iff.mp (show (Jvm.Cond.and given_1 narrow_1).before args s = true from hpre))
  obtain ⟨gc, hg⟩ := and_e hg
  have gi0 := hg
  obtain ⟨w0, rfl⟩ : ∃ w0 : Value, args = #[w0] := by
    have hs : args.size = 1 := by simpa [Cond.value, given_1] using gc
    obtain ⟨L⟩ := args
    match L, hs with
    | [w0], _ => exact ⟨w0, rfl⟩
  have hw := fun d (hd : d ∈ tables_1) => atoms_spec (ws := Jvm.Cond.code x code maxLocals ret :: tables_1) hat d (List.mem_cons_of_mem _ hd)
  have hfit : Fit s := fun {y c} hc i hi => by
    obtain ⟨ha, rfl⟩ := Array.getElem?_eq_some_iff.mp hc
    have q := List.all_eq_true.mp ((Array.all_eq_true_iff_forall_mem.mp hF) _ (Array.getElem_mem ha)) i (List.mem_range.mpr hi)
    simpa [Array.getElem?_eq_getElem hi] using q
  obtain ⟨i0, ei0⟩ := is_v gi0
  obtain rfl : w0 = (.int i0) := Option.some.inj ei0
  obtain ⟨w3, S1⟩ : ∃ w3, Sta s s.heap "java/util/ArrayList" "DEFAULTCAPACITY_EMPTY_ELEMENTDATA" "[Ljava/lang/Object;" (.ref w3) := by
    have hsets : ∀ d ∈ jdkStatics_1, d.before #[(.int i0)] s = true := fun d hd => own_sets (show rest_1_c.before #[(.int i0)] s = true from hrest) d hd
    have h2 := hsets _ (List.mem_of_getElem? (i := 2) rfl)
    have h7 := hsets _ (List.mem_of_getElem? (i := 7) rfl)
    obtain ⟨w3, ev⟩ := exa_v (Cond.before_iff.mp h7)
    exact ⟨w3, Sta.start ev (Or.inr ⟨hw _ (List.mem_of_getElem? (i := 21) rfl), h2⟩)⟩
  obtain ⟨n, o, h1, h2, h3, _, L, rfl, ⟨rfl, N⟩, hq⟩ := rm_0 l s _ hw tables_1 i0 w3 s.heap s.heap.size (Nat.le_refl _) S1 p e ha hc hk s m _ below hf ((Spec.applies_iff_loose hf).mp happ).1 ⟨rfl, State.Warmed39.refl s, rfl⟩ trivial
  refine ⟨n, _, h1, h2, h3, hpost _ _ _ _ _ _ ⟨Cond.after_iff.mpr rfl, Cond.after_iff.mpr (eq_i res_at (Term.int_eval (1)) rfl), trivial⟩ ⟨hq.1, hq.2.1, (hq.2.2.sift fun y hy => Or.inr (N y hy)).mono (by decide) (by decide)⟩⟩
theorem main_1_1 : Claimed_1_1 := comes_1 fun _ _ _ _ _ _ h hF => ⟨h.1, hF⟩
theorem main_1_2 : Claimed_1_2 := comes_1 fun _ _ _ _ _ _ h hF => ⟨h.2.1, hF⟩
end Jvm.Pilot.@@N@@
namespace Jvm.Pilot.@@N@@
open Jvm Jvm.ClassFile Sem Op Lib Jvm.Free Jvm.Stand Jvm.Pilot.@@N@@.Jvm.D
/-! MADE BY PROGRAM (witnessworld.py) out of the Statement's table words and the real class files: 20 classes; the members and pool entries that the words name. The judged class is class 1, her method 1. -/
namespace start1
open Jvm.ClassFile
def u (s : String) : CpInfo := .utf8 (stringToUtf16 s)
/-- a pool by its gaps: so many unusable entries, then the entry; so many at the end -/
def gap : Nat → List CpInfo → List CpInfo
  | 0, r => r
  | n + 1, r => .unusable :: gap n r
def poolList (es : List (Nat × CpInfo)) (last : Nat) : List CpInfo := es.foldr (fun e r => gap e.1 (e.2 :: r)) (gap last [])
def pool (es : List (Nat × CpInfo)) (last : Nat) : Array CpInfo := ⟨poolList es last⟩
def fileOf (pool : Array CpInfo) (this : Nat) (attrs : Array Attribute := #[]) (ms : Array MethodInfo := #[]) (fl : Nat := 33) (sup : Nat := 0) (ifs : Array Nat := #[]) (fds : Array FieldInfo := #[]) : ClassFile where
  minorVersion := 0
  majorVersion := 65
  constantPool := pool
  accessFlags := fl
  thisClass := this
  superClass := sup
  interfaces := ifs
  fields := fds
  methods := ms
  attributes := attrs
def plain (name : String) (sup : Option ClassId) : Class where
  name := name
  kind := .ordinary
  loader := none
  accessFlags := 33
  super := sup
  interfaces := #[]
  cf := none
  fields := #[]
  methods := #[]
  instanceTypes := #[]
  staticTypes := #[]
  resolved := #[]
  callSites := []
  init := .initialized
  statics := none
  mirror := none

def pool0 : Array CpInfo := pool [(5, u "<init>"), (0, u "()V"), (1, .class_ 10), (1, u "java/lang/Object")] 113

def k0c0 : Code := { maxStack := 0, maxLocals := 1, code := object_method_1_code, exceptionTable := #[], attributes := #[] }
def k0m0 : Method := { name := "<init>", desc := "()V", sig := { parameters := [], returnType := none }, accessFlags := 1, code := some k0c0 }
/-- java/lang/Object -/
def k0 : Class := { plain "java/lang/Object" none with
  accessFlags := 33
  interfaces := #[]
  cf := some (fileOf pool0 8 #[] #[{ accessFlags := 1, nameIndex := 5, descriptorIndex := 6, attributes := #[] }] 33 0 #[] #[])
  fields := #[]
  methods := #[k0m0]
  instanceTypes := #[]
  staticTypes := #[]
  resolved := Array.replicate 124 none
  statics := none }

def pool1 : Array CpInfo := pool [(2, .class_ 4), (0, .nameAndType 5 6), (0, u "java/lang/Object"), (0, u "<init>"), (0, u "()V"), (0, .integer 2147483647), (0, .class_ 9), (0, u "com/example/tributary/tributary/merge/ListOrder$Element"), (0, .methodref 8 3), (0, .methodref 8 12), (0, .nameAndType 13 14), (0, u "in"), (0, u "(I)Lcom/example/tributary/tributary/merge/Section;"), (0, .methodref 8 16), (0, .nameAndType 17 18), (0, u "placedAsIn"), (0, u "(I)Z"), (0, .class_ 20), (0, u "com/example/tributary/tributary/merge/ElementPlacedAsInPinLaw"), (2, u "law")] 7

def k1m0 : Method := { name := "<init>", desc := "()V", sig := { parameters := [], returnType := none }, accessFlags := 2, code := none }
def k1c1 : Code := { maxStack := 2, maxLocals := 7, code := code, exceptionTable := #[], attributes := #[] }
def k1m1 : Method := { name := "law", desc := "(I)Z", sig := { parameters := [.int], returnType := some .boolean }, accessFlags := 9, code := some k1c1 }
/-- com/example/tributary/tributary/merge/ElementPlacedAsInPinLaw -/
def k1 : Class := { plain "com/example/tributary/tributary/merge/ElementPlacedAsInPinLaw" (some 0) with
  accessFlags := 49
  interfaces := #[]
  cf := some (fileOf pool1 19 #[] #[{ accessFlags := 2, nameIndex := 5, descriptorIndex := 6, attributes := #[] }, { accessFlags := 9, nameIndex := 23, descriptorIndex := 18, attributes := #[] }] 49 2 #[] #[])
  fields := #[]
  methods := #[k1m0, k1m1]
  instanceTypes := #[]
  staticTypes := #[]
  resolved := Array.replicate 31 none
  statics := none }

def pool2 : Array CpInfo := pool [(1, .methodref 2 3), (0, .class_ 4), (0, .nameAndType 5 6), (0, u "java/lang/Object"), (0, u "<init>"), (0, u "()V"), (0, .class_ 8), (0, u "com/example/tributary/tributary/merge/Section"), (0, .fieldref 10 11), (0, .class_ 12), (0, .nameAndType 13 14), (0, u "com/example/tributary/tributary/merge/ListOrder$Element"), (0, u "versions"), (0, u "[Lcom/example/tributary/tributary/merge/Section;"), (0, .fieldref 10 16), (0, .nameAndType 17 18), (0, u "indices"), (0, u "[I"), (0, .fieldref 10 20), (0, .nameAndType 21 18), (0, u "follows"), (0, .class_ 23), (0, u "java/util/ArrayList"), (0, .methodref 22 3), (0, .fieldref 10 26), (0, .nameAndType 27 28), (0, u "taken"), (0, u "Ljava/util/List;"), (2, u "rank"), (0, u "I"), (0, .fieldref 10 34), (0, .nameAndType 35 32), (0, u "anchor"), (2, u "placed"), (0, u "Z"), (2, u "index"), (2, u "takenBy"), (0, u "Lcom/example/tributary/tributary/merge/ListOrder$Element;"), (2, u "in"), (0, u "(I)Lcom/example/tributary/tributary/merge/Section;"), (5, u "placedAsIn"), (0, u "(I)Z"), (7, .class_ 66), (0, u "com/example/tributary/tributary/merge/ListOrder")] 2

def k2c0 : Code := { maxStack := 3, maxLocals := 1, code := prog_30_method_1_code, exceptionTable := #[], attributes := #[] }
def k2m0 : Method := { name := "<init>", desc := "()V", sig := { parameters := [], returnType := none }, accessFlags := 0, code := some k2c0 }
def k2c1 : Code := { maxStack := 2, maxLocals := 2, code := prog_30_method_2_code, exceptionTable := #[], attributes := #[] }
def k2m1 : Method := { name := "in", desc := "(I)Lcom/example/tributary/tributary/merge/Section;", sig := { parameters := [.int], returnType := some (.object "com/example/tributary/tributary/merge/Section") }, accessFlags := 0, code := some k2c1 }
def k2c2 : Code := { maxStack := 2, maxLocals := 2, code := prog_30_method_5_code, exceptionTable := #[], attributes := #[] }
def k2m2 : Method := { name := "placedAsIn", desc := "(I)Z", sig := { parameters := [.int], returnType := some .boolean }, accessFlags := 0, code := some k2c2 }
/-- com/example/tributary/tributary/merge/ListOrder$Element -/
def k2 : Class := { plain "com/example/tributary/tributary/merge/ListOrder$Element" (some 0) with
  accessFlags := 48
  interfaces := #[]
  cf := some (fileOf pool2 10 #[.nestHost 65] #[{ accessFlags := 0, nameIndex := 5, descriptorIndex := 6, attributes := #[] }, { accessFlags := 0, nameIndex := 49, descriptorIndex := 50, attributes := #[] }, { accessFlags := 0, nameIndex := 56, descriptorIndex := 57, attributes := #[] }] 48 2 #[] #[{ accessFlags := 18, nameIndex := 13, descriptorIndex := 14, attributes := #[] }, { accessFlags := 18, nameIndex := 17, descriptorIndex := 18, attributes := #[] }, { accessFlags := 2, nameIndex := 38, descriptorIndex := 39, attributes := #[] }, { accessFlags := 2, nameIndex := 35, descriptorIndex := 32, attributes := #[] }, { accessFlags := 2, nameIndex := 31, descriptorIndex := 32, attributes := #[] }, { accessFlags := 2, nameIndex := 42, descriptorIndex := 32, attributes := #[] }, { accessFlags := 18, nameIndex := 21, descriptorIndex := 18, attributes := #[] }, { accessFlags := 18, nameIndex := 27, descriptorIndex := 28, attributes := #[] }, { accessFlags := 2, nameIndex := 45, descriptorIndex := 46, attributes := #[] }])
  fields := #[{ name := "versions", type := (.array (.object "com/example/tributary/tributary/merge/Section")), accessFlags := 18, slot := 0, constantValue := 0 }, { name := "indices", type := (.array .int), accessFlags := 18, slot := 1, constantValue := 0 }, { name := "placed", type := .boolean, accessFlags := 2, slot := 2, constantValue := 0 }, { name := "anchor", type := .int, accessFlags := 2, slot := 3, constantValue := 0 }, { name := "rank", type := .int, accessFlags := 2, slot := 4, constantValue := 0 }, { name := "index", type := .int, accessFlags := 2, slot := 5, constantValue := 0 }, { name := "follows", type := (.array .int), accessFlags := 18, slot := 6, constantValue := 0 }, { name := "taken", type := (.object "java/util/List"), accessFlags := 18, slot := 7, constantValue := 0 }, { name := "takenBy", type := (.object "com/example/tributary/tributary/merge/ListOrder$Element"), accessFlags := 2, slot := 8, constantValue := 0 }]
  methods := #[k2m0, k2m1, k2m2]
  instanceTypes := #[(.array (.object "com/example/tributary/tributary/merge/Section")), (.array .int), .boolean, .int, .int, .int, (.array .int), (.object "java/util/List"), (.object "com/example/tributary/tributary/merge/ListOrder$Element")]
  staticTypes := #[]
  resolved := Array.replicate 69 none
  statics := none }

def pool3 : Array CpInfo := pool [(4, .class_ 6), (1, u "java/lang/Object"), (3, .class_ 12), (1, u "com/example/tributary/tributary/merge/Section"), (0, u "kind"), (0, u "Lcom/example/tributary/tributary/merge/Section$Kind;"), (2, u "key"), (0, u "Ljava/lang/String;"), (2, u "lead"), (0, u "Lcom/example/tributary/tributary/merge/Section;"), (2, u "file"), (0, u "[B"), (2, u "from"), (0, u "I"), (2, u "to"), (8, u "parts"), (0, u "Ljava/util/List;"), (2, u "tree"), (0, u "Lcom/example/tributary/tributary/merge/Tree;"), (1, .class_ 51), (1, u "com/example/tributary/tributary/merge/Section$Kind"), (170, u "COPY")] 72

/-- com/example/tributary/tributary/merge/Section -/
def k3 : Class := { plain "com/example/tributary/tributary/merge/Section" (some 0) with
  accessFlags := 48
  interfaces := #[]
  cf := some (fileOf pool3 10 #[.nestMembers #[49]] #[] 48 4 #[] #[{ accessFlags := 26, nameIndex := 222, descriptorIndex := 18, attributes := #[] }, { accessFlags := 18, nameIndex := 13, descriptorIndex := 14, attributes := #[] }, { accessFlags := 18, nameIndex := 17, descriptorIndex := 18, attributes := #[] }, { accessFlags := 18, nameIndex := 21, descriptorIndex := 22, attributes := #[] }, { accessFlags := 18, nameIndex := 25, descriptorIndex := 26, attributes := #[] }, { accessFlags := 18, nameIndex := 29, descriptorIndex := 30, attributes := #[] }, { accessFlags := 18, nameIndex := 33, descriptorIndex := 30, attributes := #[] }, { accessFlags := 18, nameIndex := 42, descriptorIndex := 43, attributes := #[] }, { accessFlags := 18, nameIndex := 46, descriptorIndex := 47, attributes := #[] }])
  fields := #[{ name := "COPY", type := (.object "java/lang/String"), accessFlags := 26, slot := 0, constantValue := 0 }, { name := "kind", type := (.object "com/example/tributary/tributary/merge/Section$Kind"), accessFlags := 18, slot := 0, constantValue := 0 }, { name := "key", type := (.object "java/lang/String"), accessFlags := 18, slot := 1, constantValue := 0 }, { name := "lead", type := (.object "com/example/tributary/tributary/merge/Section"), accessFlags := 18, slot := 2, constantValue := 0 }, { name := "file", type := (.array .byte), accessFlags := 18, slot := 3, constantValue := 0 }, { name := "from", type := .int, accessFlags := 18, slot := 4, constantValue := 0 }, { name := "to", type := .int, accessFlags := 18, slot := 5, constantValue := 0 }, { name := "parts", type := (.object "java/util/List"), accessFlags := 18, slot := 6, constantValue := 0 }, { name := "tree", type := (.object "com/example/tributary/tributary/merge/Tree"), accessFlags := 18, slot := 7, constantValue := 0 }]
  methods := #[]
  instanceTypes := #[(.object "com/example/tributary/tributary/merge/Section$Kind"), (.object "java/lang/String"), (.object "com/example/tributary/tributary/merge/Section"), (.array .byte), .int, .int, (.object "java/util/List"), (.object "com/example/tributary/tributary/merge/Tree")]
  staticTypes := #[(.object "java/lang/String")]
  resolved := Array.replicate 295 none
  statics := none }

def pool4 : Array CpInfo := pool [(8, .class_ 10), (1, u "java/lang/Iterable"), (24, .class_ 36), (0, u "java/lang/Object")] 25

/-- java/lang/Iterable -/
def k4 : Class := { plain "java/lang/Iterable" (some 0) with
  accessFlags := 1537
  interfaces := #[]
  cf := some (fileOf pool4 8 #[] #[] 1537 35 #[] #[])
  fields := #[]
  methods := #[]
  instanceTypes := #[]
  staticTypes := #[]
  resolved := Array.replicate 62 none
  statics := none }

def pool5 : Array CpInfo := pool [(10, .class_ 12), (1, u "java/util/Collection"), (47, .class_ 61), (0, u "java/lang/Object"), (0, .class_ 63), (0, u "java/lang/Iterable")] 51

/-- java/util/Collection -/
def k5 : Class := { plain "java/util/Collection" (some 0) with
  accessFlags := 1537
  interfaces := #[4]
  cf := some (fileOf pool5 10 #[] #[] 1537 60 #[62] #[])
  fields := #[]
  methods := #[]
  instanceTypes := #[]
  staticTypes := #[]
  resolved := Array.replicate 115 none
  statics := none }

def pool6 : Array CpInfo := pool [(1, .methodref 2 3), (0, .class_ 4), (0, .nameAndType 5 6), (0, u "java/lang/Object"), (0, u "<init>"), (0, u "()V"), (1, .class_ 10), (1, u "java/util/AbstractCollection"), (66, .class_ 78), (0, u "java/util/Collection")] 81

def k6c0 : Code := { maxStack := 1, maxLocals := 1, code := jdk_22_method_1_code, exceptionTable := #[], attributes := #[] }
def k6m0 : Method := { name := "<init>", desc := "()V", sig := { parameters := [], returnType := none }, accessFlags := 4, code := some k6c0 }
/-- java/util/AbstractCollection -/
def k6 : Class := { plain "java/util/AbstractCollection" (some 0) with
  accessFlags := 1057
  interfaces := #[5]
  cf := some (fileOf pool6 8 #[] #[{ accessFlags := 4, nameIndex := 5, descriptorIndex := 6, attributes := #[] }] 1057 2 #[77] #[])
  fields := #[]
  methods := #[k6m0]
  instanceTypes := #[]
  staticTypes := #[]
  resolved := Array.replicate 160 none
  statics := none }

def pool7 : Array CpInfo := pool [(8, .class_ 10), (1, u "java/util/SequencedCollection"), (15, .class_ 27), (0, u "java/lang/Object"), (0, .class_ 29), (0, u "java/util/Collection")] 27

/-- java/util/SequencedCollection -/
def k7 : Class := { plain "java/util/SequencedCollection" (some 0) with
  accessFlags := 1537
  interfaces := #[5]
  cf := some (fileOf pool7 8 #[] #[] 1537 26 #[28] #[])
  fields := #[]
  methods := #[]
  instanceTypes := #[]
  staticTypes := #[]
  resolved := Array.replicate 57 none
  statics := none }

def pool8 : Array CpInfo := pool [(8, .class_ 10), (1, u "java/util/List"), (92, .class_ 104), (0, u "java/lang/Object"), (15, .class_ 121), (0, u "java/util/SequencedCollection")] 129

/-- java/util/List -/
def k8 : Class := { plain "java/util/List" (some 0) with
  accessFlags := 1537
  interfaces := #[7]
  cf := some (fileOf pool8 8 #[] #[] 1537 103 #[120] #[])
  fields := #[]
  methods := #[]
  instanceTypes := #[]
  staticTypes := #[]
  resolved := Array.replicate 251 none
  statics := none }

def pool9 : Array CpInfo := pool [(1, .methodref 2 3), (0, .class_ 4), (0, .nameAndType 5 6), (0, u "java/util/AbstractCollection"), (0, u "<init>"), (0, u "()V"), (0, .fieldref 8 9), (0, .class_ 10), (0, .nameAndType 11 12), (0, u "java/util/AbstractList"), (0, u "modCount"), (0, u "I"), (64, .class_ 78), (0, u "java/util/AbstractList$Itr"), (3, .class_ 83), (0, u "java/util/AbstractList$ListItr"), (9, .class_ 94), (0, u "java/util/AbstractList$RandomAccessSubList"), (3, .class_ 99), (0, u "java/util/AbstractList$SubList"), (33, .class_ 134), (0, u "java/util/List"), (73, .class_ 209), (0, u "java/util/AbstractList$SubList$1"), (0, .class_ 211), (0, u "java/util/AbstractList$RandomAccessSpliterator")] 6

def k9c0 : Code := { maxStack := 2, maxLocals := 1, code := jdk_39_method_1_code, exceptionTable := #[], attributes := #[] }
def k9m0 : Method := { name := "<init>", desc := "()V", sig := { parameters := [], returnType := none }, accessFlags := 4, code := some k9c0 }
/-- java/util/AbstractList -/
def k9 : Class := { plain "java/util/AbstractList" (some 6) with
  accessFlags := 1057
  interfaces := #[8]
  cf := some (fileOf pool9 8 #[.nestMembers #[93, 98, 208, 210, 82, 77]] #[{ accessFlags := 4, nameIndex := 5, descriptorIndex := 6, attributes := #[] }] 1057 2 #[133] #[{ accessFlags := 132, nameIndex := 11, descriptorIndex := 12, attributes := #[] }])
  fields := #[{ name := "modCount", type := .int, accessFlags := 132, slot := 0, constantValue := 0 }]
  methods := #[k9m0]
  instanceTypes := #[.int]
  staticTypes := #[]
  resolved := Array.replicate 218 none
  statics := none }

def pool10 : Array CpInfo := pool [(1, .class_ 2), (0, u "java/util/RandomAccess"), (0, .class_ 4), (0, u "java/lang/Object")] 2

/-- java/util/RandomAccess -/
def k10 : Class := { plain "java/util/RandomAccess" (some 0) with
  accessFlags := 1537
  interfaces := #[]
  cf := some (fileOf pool10 1 #[] #[] 1537 3 #[] #[])
  fields := #[]
  methods := #[]
  instanceTypes := #[]
  staticTypes := #[]
  resolved := Array.replicate 7 none
  statics := none }

def pool11 : Array CpInfo := pool [(1, .class_ 2), (0, u "java/lang/Cloneable"), (0, .class_ 4), (0, u "java/lang/Object")] 2

/-- java/lang/Cloneable -/
def k11 : Class := { plain "java/lang/Cloneable" (some 0) with
  accessFlags := 1537
  interfaces := #[]
  cf := some (fileOf pool11 1 #[] #[] 1537 3 #[] #[])
  fields := #[]
  methods := #[]
  instanceTypes := #[]
  staticTypes := #[]
  resolved := Array.replicate 7 none
  statics := none }

def pool12 : Array CpInfo := pool [(1, .class_ 2), (0, u "java/io/Serializable"), (0, .class_ 4), (0, u "java/lang/Object")] 2

/-- java/io/Serializable -/
def k12 : Class := { plain "java/io/Serializable" (some 0) with
  accessFlags := 1537
  interfaces := #[]
  cf := some (fileOf pool12 1 #[] #[] 1537 3 #[] #[])
  fields := #[]
  methods := #[]
  instanceTypes := #[]
  staticTypes := #[]
  resolved := Array.replicate 7 none
  statics := none }

def pool13 : Array CpInfo := pool [(1, .methodref 2 3), (0, .class_ 4), (0, .nameAndType 5 6), (0, u "java/util/AbstractList"), (0, u "<init>"), (0, u "()V"), (2, .fieldref 10 11), (0, .class_ 12), (0, .nameAndType 13 14), (0, u "java/util/ArrayList"), (0, u "elementData"), (0, u "[Ljava/lang/Object;"), (2, u "EMPTY_ELEMENTDATA"), (21, .fieldref 10 40), (0, .nameAndType 41 14), (0, u "DEFAULTCAPACITY_EMPTY_ELEMENTDATA"), (8, u "size"), (0, u "I"), (96, .class_ 149), (0, u "java/util/List"), (112, .class_ 263), (0, u "java/util/ArrayList$ListItr"), (3, .class_ 268), (0, u "java/util/ArrayList$Itr"), (7, .class_ 277), (0, u "java/util/ArrayList$SubList"), (12, .class_ 291), (0, u "java/util/ArrayList$ArrayListSpliterator"), (37, .class_ 330), (0, u "java/util/RandomAccess"), (0, .class_ 332), (0, u "java/lang/Cloneable"), (0, .class_ 334), (0, u "java/io/Serializable"), (0, u "serialVersionUID"), (0, u "J"), (3, u "DEFAULT_CAPACITY"), (159, .class_ 501), (0, u "java/util/ArrayList$SubList$2"), (0, .class_ 503), (0, u "java/util/ArrayList$SubList$1")] 5

def k13c0 : Code := { maxStack := 2, maxLocals := 1, code := jdk_38_method_2_code, exceptionTable := #[], attributes := #[] }
def k13m0 : Method := { name := "<init>", desc := "()V", sig := { parameters := [], returnType := none }, accessFlags := 1, code := some k13c0 }
/-- java/util/ArrayList -/
def k13 : Class := { plain "java/util/ArrayList" (some 9) with
  accessFlags := 33
  interfaces := #[8, 10, 11, 12]
  cf := some (fileOf pool13 10 #[.nestMembers #[290, 276, 500, 502, 262, 267]] #[{ accessFlags := 1, nameIndex := 5, descriptorIndex := 6, attributes := #[] }] 33 2 #[148, 329, 331, 333] #[{ accessFlags := 26, nameIndex := 335, descriptorIndex := 336, attributes := #[] }, { accessFlags := 26, nameIndex := 340, descriptorIndex := 51, attributes := #[] }, { accessFlags := 26, nameIndex := 17, descriptorIndex := 14, attributes := #[] }, { accessFlags := 26, nameIndex := 41, descriptorIndex := 14, attributes := #[] }, { accessFlags := 128, nameIndex := 13, descriptorIndex := 14, attributes := #[] }, { accessFlags := 2, nameIndex := 50, descriptorIndex := 51, attributes := #[] }])
  fields := #[{ name := "serialVersionUID", type := .long, accessFlags := 26, slot := 0, constantValue := 0 }, { name := "DEFAULT_CAPACITY", type := .int, accessFlags := 26, slot := 1, constantValue := 0 }, { name := "EMPTY_ELEMENTDATA", type := (.array (.object "java/lang/Object")), accessFlags := 26, slot := 2, constantValue := 0 }, { name := "DEFAULTCAPACITY_EMPTY_ELEMENTDATA", type := (.array (.object "java/lang/Object")), accessFlags := 26, slot := 3, constantValue := 0 }, { name := "elementData", type := (.array (.object "java/lang/Object")), accessFlags := 128, slot := 1, constantValue := 0 }, { name := "size", type := .int, accessFlags := 2, slot := 2, constantValue := 0 }]
  methods := #[k13m0]
  instanceTypes := #[.int, (.array (.object "java/lang/Object")), .int]
  staticTypes := #[.long, .int, (.array (.object "java/lang/Object")), (.array (.object "java/lang/Object"))]
  resolved := Array.replicate 509 none
  statics := some 0 }

/-- the primitive byte -/
def k14 : Class := { plain "byte" none with kind := .primitive 'B', accessFlags := 0x411 }
/-- [B -/
def k15 : Class := { plain "[B" (some 0) with kind := .array 14 .byte, interfaces := #[11, 12], accessFlags := 1041 }

/-- the primitive int -/
def k16 : Class := { plain "int" none with kind := .primitive 'I', accessFlags := 0x411 }
/-- [I -/
def k17 : Class := { plain "[I" (some 0) with kind := .array 16 .int, interfaces := #[11, 12], accessFlags := 1041 }

/-- [Lcom/example/tributary/tributary/merge/Section; -/
def k18 : Class := { plain "[Lcom/example/tributary/tributary/merge/Section;" (some 0) with kind := .array 3 (.object "com/example/tributary/tributary/merge/Section"), interfaces := #[11, 12], accessFlags := 1041 }

/-- [Ljava/lang/Object; -/
def k19 : Class := { plain "[Ljava/lang/Object;" (some 0) with kind := .array 0 (.object "java/lang/Object"), interfaces := #[11, 12], accessFlags := 1041 }

def heap : Heap := #[{ cls := 13, slots := #[.long 0, .int 0, .ref 1, .ref 2], vm := .statics 13 },
  { cls := 19, slots := #[], vm := .none },
  { cls := 19, slots := #[], vm := .none }]
def classes : Array Class := #[k0, k1, k2, k3, k4, k5, k6, k7, k8, k9, k10, k11, k12, k13, k14, k15, k16, k17, k18, k19]
def interned : List (Array UInt16 × Addr) := []
def slotsUsed : Nat := 4
def theMethod : MethodId := ⟨1, 1⟩
def args0 : Array Value := #[.int 5]
def aboutOver (below : List Frame) : State where
  vm := { classes := classes, interned := interned.toArray }
  heap := heap
  slotsUsed := slotsUsed
  threads := #[{ frames := .invoking theMethod args0 :: below }]
def below0 : List Frame := [.native { method := ⟨0, 0⟩, args := #[] }]
def about1 : State := aboutOver below0
def p0 : Program := .bare "" "" ""
def e0 : Env := launch0.env 0 0 0
theorem w_frames : about1.frames = Frame.invoking theMethod args0 :: below0 := rfl
set_option maxRecDepth 65536 in
theorem w_args : argsFit about1.vm theMethod args0 = true := by decide +kernel
set_option maxRecDepth 65536 in
theorem w_heap : heapFits about1 = true := by decide +kernel
set_option maxRecDepth 65536 in
theorem w_runnable : about1.curStatus? = some .runnable := by decide +kernel
set_option maxRecDepth 65536 in
theorem w_alone : about1.alone = true := by decide +kernel
set_option maxRecDepth 65536 in
theorem w_named : about1.methodNamed? x = some theMethod := by decide +kernel
set_option maxRecDepth 65536 in
theorem w_hears : about1.hears theMethod below0 = true := by decide +kernel
set_option maxRecDepth 65536 in
theorem w_ripe : about1.ripe theMethod args0 below0 = true := by decide +kernel
theorem w_running : about1.status = .running := rfl
set_option maxRecDepth 65536 in
theorem w_room : about1.hasRoom e0.platform room_1 = true :=
  launch0.hasRoom_least _ room_1 (by decide +kernel) (by decide +kernel) (by decide +kernel) (by decide +kernel) (by decide +kernel) (by decide +kernel)
theorem allAtoms_all (ts : List Jvm.Cond) (a : Array Jvm.Value) (st : Jvm.State) : (allAtoms ts).before a st = ts.all (fun c => c.before a st) := by
  induction ts with
  | nil => rfl
  | cons c t ih =>
    show (Jvm.Cond.and c (allAtoms t)).before a st = _
    rw [Jvm.Cond.before_and, ih, List.all_cons]
def words1 : List Jvm.Cond := Jvm.Cond.code x code maxLocals ret :: tables_1
/-- a 'code' word, met by the world's own term for the bytes: nothing is compared byte by byte -/
theorem code_word {y : MethodName} {bytes : ByteArray} {mx : Nat} {rt : Option FieldType} {a : Array Value} {s : State} {m : MethodId} {meth : Method} {c : Code} (h1 : s.methodNamed? y = some m) (h2 : s.vm.method? m = some meth) (h3 : meth.code = some c) (h4 : c.code = bytes)
    (h5 : (c.maxLocals == mx && c.exceptionTable.isEmpty && decide (c.maxStack ≤ mostOperands) && decide (meth.sig.returnType = rt) && !meth.locks && decide (parseMethodDescriptor y.desc = some meth.sig)) = true) : (Jvm.Cond.code y bytes mx rt).before a s = true := by
  simp only [Bool.and_eq_true, beq_iff_eq, Bool.not_eq_true', decide_eq_true_eq] at h5
  obtain ⟨⟨⟨⟨⟨g1, g2⟩, g3⟩, g4⟩, g5⟩, g6⟩ := h5
  simp [Cond.before, Cond.holds, Cond.value, h1, h2, h3, h4, g1, g2, g3, g4, g5, g6]
def isCode : Jvm.Cond → Bool
  | .code _ _ _ _ => true
  | _ => false
theorem all_split {L : List Jvm.Cond} {P : Jvm.Cond → Bool} (h1 : L.all (fun c => isCode c || P c) = true) (h2 : ∀ c ∈ L.filter isCode, P c = true) : L.all P = true := by
  refine List.all_eq_true.mpr fun c hc => ?_
  have h := List.all_eq_true.mp h1 c hc
  rcases Bool.eq_false_or_eq_true (isCode c) with hi | hi
  · exact h2 c (List.mem_filter.mpr ⟨hc, hi⟩)
  · simpa [hi] using h
set_option maxRecDepth 65536 in
theorem w_c0 : (Jvm.Cond.code x code maxLocals ret).before args0 about1 = true := code_word (m := ⟨1, 1⟩) (meth := k1m1) (c := k1c1) (by decide +kernel) rfl rfl rfl (by decide +kernel)
set_option maxRecDepth 65536 in
theorem w_c1 : (Jvm.Cond.code ({ cls := "com/example/tributary/tributary/merge/ListOrder$Element", name := "<init>", desc := "()V" } : Jvm.MethodName) prog_30_method_1_code (1 : Nat) (Option.none : Option Jvm.ClassFile.FieldType)).before args0 about1 = true := code_word (m := ⟨2, 0⟩) (meth := k2m0) (c := k2c0) (by decide +kernel) rfl rfl rfl (by decide +kernel)
set_option maxRecDepth 65536 in
theorem w_c2 : (Jvm.Cond.code ({ cls := "java/lang/Object", name := "<init>", desc := "()V" } : Jvm.MethodName) object_method_1_code (1 : Nat) (Option.none : Option Jvm.ClassFile.FieldType)).before args0 about1 = true := code_word (m := ⟨0, 0⟩) (meth := k0m0) (c := k0c0) (by decide +kernel) rfl rfl rfl (by decide +kernel)
set_option maxRecDepth 65536 in
theorem w_c3 : (Jvm.Cond.code ({ cls := "java/util/ArrayList", name := "<init>", desc := "()V" } : Jvm.MethodName) jdk_38_method_2_code (1 : Nat) (Option.none : Option Jvm.ClassFile.FieldType)).before args0 about1 = true := code_word (m := ⟨13, 0⟩) (meth := k13m0) (c := k13c0) (by decide +kernel) rfl rfl rfl (by decide +kernel)
set_option maxRecDepth 65536 in
theorem w_c4 : (Jvm.Cond.code ({ cls := "java/util/AbstractList", name := "<init>", desc := "()V" } : Jvm.MethodName) jdk_39_method_1_code (1 : Nat) (Option.none : Option Jvm.ClassFile.FieldType)).before args0 about1 = true := code_word (m := ⟨9, 0⟩) (meth := k9m0) (c := k9c0) (by decide +kernel) rfl rfl rfl (by decide +kernel)
set_option maxRecDepth 65536 in
theorem w_c5 : (Jvm.Cond.code ({ cls := "java/util/AbstractCollection", name := "<init>", desc := "()V" } : Jvm.MethodName) jdk_22_method_1_code (1 : Nat) (Option.none : Option Jvm.ClassFile.FieldType)).before args0 about1 = true := code_word (m := ⟨6, 0⟩) (meth := k6m0) (c := k6c0) (by decide +kernel) rfl rfl rfl (by decide +kernel)
set_option maxRecDepth 65536 in
theorem w_c6 : (Jvm.Cond.code ({ cls := "com/example/tributary/tributary/merge/ListOrder$Element", name := "in", desc := "(I)Lcom/example/tributary/tributary/merge/Section;" } : Jvm.MethodName) prog_30_method_2_code (2 : Nat) (Option.some (Jvm.ClassFile.FieldType.object "com/example/tributary/tributary/merge/Section"))).before args0 about1 = true := code_word (m := ⟨2, 1⟩) (meth := k2m1) (c := k2c1) (by decide +kernel) rfl rfl rfl (by decide +kernel)
set_option maxRecDepth 65536 in
theorem w_c7 : (Jvm.Cond.code ({ cls := "com/example/tributary/tributary/merge/ListOrder$Element", name := "placedAsIn", desc := "(I)Z" } : Jvm.MethodName) prog_30_method_5_code (2 : Nat) (Option.some Jvm.ClassFile.FieldType.boolean)).before args0 about1 = true := code_word (m := ⟨2, 2⟩) (meth := k2m2) (c := k2c2) (by decide +kernel) rfl rfl rfl (by decide +kernel)
def codes1 : List Jvm.Cond := [Jvm.Cond.code x code maxLocals ret, Jvm.Cond.code ({ cls := "com/example/tributary/tributary/merge/ListOrder$Element", name := "<init>", desc := "()V" } : Jvm.MethodName) prog_30_method_1_code (1 : Nat) (Option.none : Option Jvm.ClassFile.FieldType), Jvm.Cond.code ({ cls := "java/lang/Object", name := "<init>", desc := "()V" } : Jvm.MethodName) object_method_1_code (1 : Nat) (Option.none : Option Jvm.ClassFile.FieldType), Jvm.Cond.code ({ cls := "java/util/ArrayList", name := "<init>", desc := "()V" } : Jvm.MethodName) jdk_38_method_2_code (1 : Nat) (Option.none : Option Jvm.ClassFile.FieldType), Jvm.Cond.code ({ cls := "java/util/AbstractList", name := "<init>", desc := "()V" } : Jvm.MethodName) jdk_39_method_1_code (1 : Nat) (Option.none : Option Jvm.ClassFile.FieldType), Jvm.Cond.code ({ cls := "java/util/AbstractCollection", name := "<init>", desc := "()V" } : Jvm.MethodName) jdk_22_method_1_code (1 : Nat) (Option.none : Option Jvm.ClassFile.FieldType), Jvm.Cond.code ({ cls := "com/example/tributary/tributary/merge/ListOrder$Element", name := "in", desc := "(I)Lcom/example/tributary/tributary/merge/Section;" } : Jvm.MethodName) prog_30_method_2_code (2 : Nat) (Option.some (Jvm.ClassFile.FieldType.object "com/example/tributary/tributary/merge/Section")), Jvm.Cond.code ({ cls := "com/example/tributary/tributary/merge/ListOrder$Element", name := "placedAsIn", desc := "(I)Z" } : Jvm.MethodName) prog_30_method_5_code (2 : Nat) (Option.some Jvm.ClassFile.FieldType.boolean)]
set_option maxRecDepth 65536 in
theorem codes_eq : words1.filter isCode = codes1 := rfl
theorem w_codes : ∀ c ∈ words1.filter isCode, c.before args0 about1 = true := by
  rw [codes_eq]
  intro c hc
  simp only [codes1, List.mem_cons, List.not_mem_nil, or_false] at hc
  rcases hc with rfl | rfl | rfl | rfl | rfl | rfl | rfl | rfl
  · exact w_c0
  · exact w_c1
  · exact w_c2
  · exact w_c3
  · exact w_c4
  · exact w_c5
  · exact w_c6
  · exact w_c7
set_option maxRecDepth 65536 in
theorem w_t1 : (words1.take 24).all (fun c => isCode c || c.before args0 about1) = true := by decide +kernel
set_option maxRecDepth 65536 in
theorem w_t2 : ((words1.drop 24).take 24).all (fun c => isCode c || c.before args0 about1) = true := by decide +kernel
set_option maxRecDepth 65536 in
theorem w_t3 : ((words1.drop 24).drop 24).all (fun c => isCode c || c.before args0 about1) = true := by decide +kernel
theorem w_tables : (allAtoms (Jvm.Cond.code x code maxLocals ret :: tables_1)).before args0 about1 = true := by
  rw [allAtoms_all]
  show words1.all (fun c => c.before args0 about1) = true
  refine all_split ?_ w_codes
  rw [← List.take_append_drop 24 words1, List.all_append, w_t1, ← List.take_append_drop 24 (words1.drop 24), List.all_append, w_t2, w_t3]
  rfl
set_option maxRecDepth 65536 in
theorem w_rest : rest_1_c.before args0 about1 = true := by decide +kernel
set_option maxRecDepth 65536 in
theorem w_case : (Jvm.Cond.and given_1 narrow_1).before args0 about1 = true := by decide +kernel
theorem w_applies : (headSpec (Jvm.Cond.code x code maxLocals ret :: tables_1) room_1).applies x e0.platform about1 = true :=
  (Spec.applies_iff w_frames).mpr ⟨w_running, w_runnable, w_alone, w_named, w_hears, w_ripe, w_room, w_tables⟩
theorem atStart : AtStart classFile x code maxLocals ret World_1 tables_1 room_1 Calls_1 rest_1 Pre_1 launch0 p0 e0 about1 theMethod args0 below0 :=
  ⟨lists_1, trivial, launch0.admits_env _ _ _, launch0.least_env, fairChoices_fair.cas, fairChoices_fair.clock, w_frames, w_args, w_heap, w_applies, trivial, w_rest, w_case⟩
end start1
theorem witness_1 : WitnessClaimed_1 := ⟨start1.p0, start1.e0, start1.about1, start1.theMethod, start1.args0, start1.below0, start1.atStart⟩
end Jvm.Pilot.@@N@@
