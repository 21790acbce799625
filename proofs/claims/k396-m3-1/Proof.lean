import JvmDerived
import JvmDerived.Pilot.@@N@@Statement
import JvmDerived.Pilot.@@N@@Code
set_option linter.unusedVariables false
set_option linter.unusedSimpArgs false
namespace Jvm.RoadKit
open Sem ClassFile Op Lib Jvm.Stand Jvm.Free Jvm.LawKit
section New
variable {p : Program} {l : Launch} {e : Env} {R : Room} {s : State} {m : MethodId} {args : Array Value} {below : List Frame} {meth : Method} {c : Code} {T : State} {locs : List Loc} {cells slots : Nat}
theorem retI (X : Stand p l e R s m args below meth c T locs cells slots) (hx : p.tables.exec = Jvm.exec) {pc : Nat} {Ls : Array Slot} {z : Int32} {rest : List Value} (hret : meth.sig.returnType = some .int) (hd : decode c.code pc = .ok (.ireturn, 1)) {fs : List Frame}
    (hl : ∀ (f : JFrame) (acts : List Action), f.method = m → f.locked = none → f.entered = [] → (doReturn e (T.setTop f) acts (some (.int z))).1 = T.setFrames fs) : Steps p.tables e below (T.setTop (mkF m pc Ls (.int z :: rest))) (T.setFrames fs) := by
  have hm' : T.vm.method? m = some meth := X.method'
  have hn : narrow .int (.int z) = .int z := rfl
  show Steps p.tables e below (T.setTop { method := m, pc := pc, locals := Ls, stack := _ :: rest, locked := none }) _
  jvm_step X.here [X.here.top, hx, hd, hm', hret, hn]
  first | (intro acts; rw [hl _ acts rfl rfl rfl]) | rw [hl _ _ rfl rfl rfl]
  exact Steps.refl _
end New
end Jvm.RoadKit
namespace Jvm.Pilot.@@N@@
open Jvm Jvm.ClassFile Sem Op Lib Jvm.Free Jvm.Stand Jvm.LawKit Jvm.RoadKit Bundle Jvm.Pilot.@@N@@.Jvm.D
theorem own_irem (x y : Int32) : x - (x / y) * y = x % y := by
  apply Int32.toInt_inj.mp
  have a := (x % y).toInt_lt; have b := (x % y).le_toInt
  rw [Int32.toInt_mod] at a b ⊢
  rw [Int32.toInt_sub, Int32.toInt_mul, Int32.toInt_div, Int.bmod_mul_bmod, Int.sub_bmod_bmod, Int.mul_comm, ← Int.tmod_def]
  exact Int.bmod_eq_of_le (by omega) (by omega)
theorem own_ns_exa {Z : State} {h : Heap} {a : Addr} {C : String} (F : Exa Z h a C) : ∀ c : Cell, h[a]? = some c → c.vm.isStatics = false := fun c hc => by
  obtain ⟨cell, k, h1, -, -, h4, -⟩ := F
  cases h1.symm.trans hc; exact h4
theorem own_sta_keep {Z : State} {h h' : Heap} {C n d : String} {v : Value} {ws : List Addr} (F : Sta Z h C n d v) (K : Keep h h' ws) (q : ∀ x ∈ ws, ∀ c : Cell, h[x]? = some c → c.vm.isStatics = false) : Sta Z h' C n d v := by
  obtain ⟨cf, i, k, f, st, cell, h1, h2, h3, h4, h5, h6, h7⟩ := F
  refine ⟨cf, i, k, f, st, cell, h1, h2, h3, h4, K.2.1 st cell h5 (fun hm => ?_), h6, h7⟩
  rw [q st hm cell h5] at h6; cases h6
theorem dini_0 : decode prog_26_method_1_code 0 = .ok (.aload_n 0, 1) := by decide +kernel
theorem dini_1 : decode prog_26_method_1_code 1 = .ok (.invokespecial 1, 3) := by decide +kernel
theorem dini_4 : decode prog_26_method_1_code 4 = .ok (.iload_n 1, 1) := by decide +kernel
theorem dini_5 : decode prog_26_method_1_code 5 = .ok (.ifCond .lt 10, 3) := by decide +kernel
theorem dini_8 : decode prog_26_method_1_code 8 = .ok (.iload_n 1, 1) := by decide +kernel
theorem dini_9 : decode prog_26_method_1_code 9 = .ok (.sipush 1000, 3) := by decide +kernel
theorem dini_12 : decode prog_26_method_1_code 12 = .ok (.if_icmp .le 17, 3) := by decide +kernel
theorem dini_29 : decode prog_26_method_1_code 29 = .ok (.aload_n 0, 1) := by decide +kernel
theorem dini_30 : decode prog_26_method_1_code 30 = .ok (.iload_n 1, 1) := by decide +kernel
theorem dini_31 : decode prog_26_method_1_code 31 = .ok (.putfield 18, 3) := by decide +kernel
theorem dini_34 : decode prog_26_method_1_code 34 = .ok (.return_, 1) := by decide +kernel
theorem pn_ini : plainName "com/example/samewire/samewire/Nesting" = true := by first | (simp [plainName, overriddenIn]; done) | decide +kernel
theorem ef_ini (m : MethodId) (a1 : Addr) (p2 : Int32) : entryFrame m #[(.ref a1), (.int p2)] 2 = (mkF m 0 #[.val (.ref a1), .val (.int p2)] []) := by first | (simp [entryFrame, mkF, argsToLocals, Value.category]; done) | rfl
def Q_ini (Z : State) (a1 : Addr) (p2 d lim : Int32) (h0 : Heap) (n0 : Nat) (v : Option Value) (h : Heap) (L : List Loc) : Prop := v = none ∧ Fr n0 L ∧ Keep h0 h [a1] ∧ Fld Z h a1 "com/example/samewire/samewire/Nesting" "depth" "I" (.int d) ∧ Fld Z h a1 "com/example/samewire/samewire/Nesting" "limit" "I" (.int p2)
set_option maxRecDepth 65536 in
set_option maxHeartbeats 40000000 in
theorem rm_ini (l : Launch) (Z : State) (a0 : Array Value) (hw : ∀ d ∈ tables_1, d.before a0 Z = true) (ws : List Jvm.Cond) (a1 : Addr) (p2 d lim : Int32) (h0 : Heap) (n0 : Nat) (Z0 : n0 ≤ h0.size) (E1 : Exa Z h0 a1 "com/example/samewire/samewire/Nesting") (Fd : Fld Z h0 a1 "com/example/samewire/samewire/Nesting" "depth" "I" (.int d)) (Fl : Fld Z h0 a1 "com/example/samewire/samewire/Nesting" "limit" "I" (.int lim)) (g_a1 : n0 ≤ a1) (hl0 : ¬ p2 < 0) (hl1 : ¬ (1000 : Int32) < p2) :
    MetFree l (⟨"com/example/samewire/samewire/Nesting", "<init>", "(I)V"⟩ : MethodName) (head1 (Jvm.Cond.code (⟨"com/example/samewire/samewire/Nesting", "<init>", "(I)V"⟩ : MethodName) prog_26_method_1_code 2 none :: ws) ({ frames := 1, cells := 0, slots := 0, locals := 12 } : Room)) (fun a U => a = #[(.ref a1), (.int p2)] ∧ Z.Warmed39 U.vm ∧ U.heap = h0) (fun _ _ _ _ _ => True) (fun _ U o U' => ∃ v L, o = .returned v ∧ Q_ini Z a1 p2 d lim h0 n0 v U'.heap L ∧ FrameEnd U o U' L ({ frames := 1, cells := 0, slots := 0, locals := 12 } : Room).cells ({ frames := 1, cells := 0, slots := 0, locals := 12 } : Room).slots) := by
  refine MetFree.of_bodySF (plainFor_of_name pn_ini) hisR ?_
  intro p e s m args below meth c s₁ Bd hml0 hP hK
  obtain ⟨rfl, hZ, hh⟩ := hP
  have hx := Bd.exec
  have hby := Bd.bytes
  have hml : c.maxLocals = 2 := hml0
  have hown : s.vm.findClass "com/example/samewire/samewire/Nesting" = some m.cls := findClass_of_methodNamed Bd.named
  have hnm := (name_of_methodNamed Bd.named Bd.method).1
  have X0 : Stand p l e ({ frames := 1, cells := 0, slots := 0, locals := 12 } : Room) s m #[(.ref a1), (.int p2)] below meth c s₁ [] 0 0 := Stand.of_body Bd
  have e0 : s₁.heap = h0 := by rw [← hh, Bd.state]; rfl
  have N0 := Fr.nil n0
  have pre0 : ∀ t, Steps p.tables e below (s₁.setTop (mkF m 0 #[.val (.ref a1), .val (.int p2)] [])) t → Steps p.tables e below (s₁.setTop (entryFrame m #[(.ref a1), (.int p2)] 2)) t := fun t k => castTop (ef_ini m a1 p2) k
  have K2 : Keep h0 h0 [a1] := Keep.refl h0 [a1]
  have pre3 : ∀ t, Steps p.tables e below (s₁.setTop (mkF m 1 #[.val (.ref a1), .val (.int p2)] [(.ref a1)])) t → Steps p.tables e below (s₁.setTop (entryFrame m #[(.ref a1), (.int p2)] 2)) t := fun t k => pre0 t (by
    show Steps p.tables e below (s₁.setTop (mkF m 0 #[.val (.ref a1), .val (.int p2)] [])) _
    refine XS.aloadN X0.here hx rfl (hb hby dini_0) rfl rfl ?_
    show Steps p.tables e below (s₁.setTop (mkF m 1 #[.val (.ref a1), .val (.int p2)] [(.ref a1)])) _
    exact k)
  obtain ⟨T4, X4, e4, st4⟩ := initO X0 hx hZ hown (hw _ (List.mem_of_getElem? (i := 7) rfl)) (hw _ (List.mem_of_getElem? (i := 8) rfl)) (hw _ (List.mem_of_getElem? (i := 9) rfl)) e0 (g := (mkF m 1 #[.val (.ref a1), .val (.int p2)] [(.ref a1)])) rfl (by rw [hml]; rfl) rfl (hb hby dini_1) (by decide) (W := 0) (by show 2 * 0 + _ ≤ _; exact Nat.le_of_eq rfl) (by decide)
  have pre5 : ∀ t, Steps p.tables e below (T4.setTop (mkF m 31 #[.val (.ref a1), .val (.int p2)] [(.int p2), (.ref a1)])) t → Steps p.tables e below (s₁.setTop (entryFrame m #[(.ref a1), (.int p2)] 2)) t := fun t k => pre3 t (by
    show Steps p.tables e below (s₁.setTop (mkF m 1 #[.val (.ref a1), .val (.int p2)] [(.ref a1)])) _
    refine st4 _ ?_
    show Steps p.tables e below (T4.setTop (mkF m 4 #[.val (.ref a1), .val (.int p2)] [])) _
    refine XS.iloadN X4.here hx rfl (hb hby dini_4) rfl ?_
    show Steps p.tables e below (T4.setTop (mkF m 5 #[.val (.ref a1), .val (.int p2)] [(.int p2)])) _
    refine XS.ifNo X4.here hx rfl (hb hby dini_5) rfl (XT.i0_lt_f hl0) ?_
    show Steps p.tables e below (T4.setTop (mkF m 8 #[.val (.ref a1), .val (.int p2)] [])) _
    refine XS.iloadN X4.here hx rfl (hb hby dini_8) rfl ?_
    show Steps p.tables e below (T4.setTop (mkF m 9 #[.val (.ref a1), .val (.int p2)] [(.int p2)])) _
    refine XS.sipush X4.here hx rfl (hb hby dini_9) ?_
    show Steps p.tables e below (T4.setTop (mkF m 12 #[.val (.ref a1), .val (.int p2)] [(.int (1000 : Int32)), (.int p2)])) _
    refine XS.icmpYes X4.here hx rfl (pc0 := 12) (pc' := 29) rfl (hb hby dini_12) rfl (XT.ii_le_t hl1) (by decide) (by decide) ?_
    show Steps p.tables e below (T4.setTop (mkF m 29 #[.val (.ref a1), .val (.int p2)] [])) _
    refine XS.aloadN X4.here hx rfl (hb hby dini_29) rfl rfl ?_
    show Steps p.tables e below (T4.setTop (mkF m 30 #[.val (.ref a1), .val (.int p2)] [(.ref a1)])) _
    refine XS.iloadN X4.here hx rfl (hb hby dini_30) rfl ?_
    show Steps p.tables e below (T4.setTop (mkF m 31 #[.val (.ref a1), .val (.int p2)] [(.int p2), (.ref a1)])) _
    exact k)
  obtain ⟨T6, h6, X6, e6, W6, st6⟩ := putF X4 hx hZ hown (host := "") (Or.inl (hw _ (List.mem_of_getElem? (i := 10) rfl))) Via.refl e4 Fl E1 (Or.inr ⟨(hw _ (List.mem_of_getElem? (i := 11) rfl)), rfl, hnm⟩) (hw _ (List.mem_of_getElem? (i := 2) rfl)) (ty := .int) (by decide) rfl rfl (g := (mkF m 31 #[.val (.ref a1), .val (.int p2)] [(.int p2), (.ref a1)])) rfl rfl (hb hby dini_31)
  have F6 := Fl.same W6
  have N6 := Fr.snoc X6 N0 g_a1
  have f7_0 := E1.wr W6
  have f7_1 := Fd.other W6 (Or.inr (slot_ne (Or.inl (hw _ (List.mem_of_getElem? (i := 23) rfl))) (Or.inr (hw _ (List.mem_of_getElem? (i := 11) rfl))) (by decide) (t := .int) (t' := .int) (by decide) (by decide)))
  have K8 := K2.wr W6 (Or.inl (List.mem_of_getElem? (i := 0) rfl))
  have Z6 : n0 ≤ h6.size := Nat.le_trans Z0 (Keep.of_wr W6).1
  have pre9 : ∀ t, Steps p.tables e below (T6.setTop (mkF m 34 #[.val (.ref a1), .val (.int p2)] [])) t → Steps p.tables e below (s₁.setTop (entryFrame m #[(.ref a1), (.int p2)] 2)) t := fun t k => pre5 t (by
    show Steps p.tables e below (T4.setTop (mkF m 31 #[.val (.ref a1), .val (.int p2)] [(.int p2), (.ref a1)])) _
    refine st6 _ ?_
    show Steps p.tables e below (T6.setTop (mkF m 34 #[.val (.ref a1), .val (.int p2)] [])) _
    exact k)
  obtain ⟨fs, hr, hrun, hended, hW, hsame⟩ := X6.leave (v := none) (fun _ => rfl)
  refine ⟨_, _, pre9 _ ?_, hrun, hended, _, _, rfl, ?_, ⟨_, rfl⟩, hW, hsame.mono (by decide) (by decide)⟩
  · exact X6.returnOut hx Bd.returns (hb hby dini_34) hr
  · show Q_ini Z a1 p2 d lim h0 n0 _ T6.heap _
    rw [e6]
    exact ⟨rfl, N6, K8, f7_1, F6⟩
theorem dclo_0 : decode prog_26_method_3_code 0 = .ok (.aload_n 0, 1) := by decide +kernel
theorem dclo_1 : decode prog_26_method_3_code 1 = .ok (.dup, 1) := by decide +kernel
theorem dclo_2 : decode prog_26_method_3_code 2 = .ok (.getfield 22, 3) := by decide +kernel
theorem dclo_5 : decode prog_26_method_3_code 5 = .ok (.iconst 1, 1) := by decide +kernel
theorem dclo_6 : decode prog_26_method_3_code 6 = .ok (.isub, 1) := by decide +kernel
theorem dclo_7 : decode prog_26_method_3_code 7 = .ok (.putfield 22, 3) := by decide +kernel
theorem dclo_10 : decode prog_26_method_3_code 10 = .ok (.return_, 1) := by decide +kernel
theorem pn_clo : plainName "com/example/samewire/samewire/Nesting" = true := by first | (simp [plainName, overriddenIn]; done) | decide +kernel
theorem ef_clo (m : MethodId) (a1 : Addr) : entryFrame m #[(.ref a1)] 1 = (mkF m 0 #[.val (.ref a1)] []) := by first | (simp [entryFrame, mkF, argsToLocals, Value.category]; done) | rfl
def Q_clo (Z : State) (a1 : Addr) (d lim : Int32) (h0 : Heap) (n0 : Nat) (v : Option Value) (h : Heap) (L : List Loc) : Prop := v = none ∧ Fr n0 L ∧ Keep h0 h [a1] ∧ Fld Z h a1 "com/example/samewire/samewire/Nesting" "depth" "I" (.int (d - 1)) ∧ Fld Z h a1 "com/example/samewire/samewire/Nesting" "limit" "I" (.int lim)
set_option maxRecDepth 65536 in
set_option maxHeartbeats 40000000 in
theorem rm_clo (l : Launch) (Z : State) (a0 : Array Value) (hw : ∀ d ∈ tables_1, d.before a0 Z = true) (ws : List Jvm.Cond) (a1 : Addr) (d lim : Int32) (h0 : Heap) (n0 : Nat) (Z0 : n0 ≤ h0.size) (E1 : Exa Z h0 a1 "com/example/samewire/samewire/Nesting") (Fd : Fld Z h0 a1 "com/example/samewire/samewire/Nesting" "depth" "I" (.int d)) (Fl : Fld Z h0 a1 "com/example/samewire/samewire/Nesting" "limit" "I" (.int lim)) (g_a1 : n0 ≤ a1) :
    MetFree l (⟨"com/example/samewire/samewire/Nesting", "close", "()V"⟩ : MethodName) (head1 (Jvm.Cond.code (⟨"com/example/samewire/samewire/Nesting", "close", "()V"⟩ : MethodName) prog_26_method_3_code 1 none :: ws) ({ frames := 0, cells := 0, slots := 0, locals := 0 } : Room)) (fun a U => a = #[(.ref a1)] ∧ Z.Warmed39 U.vm ∧ U.heap = h0) (fun _ _ _ _ _ => True) (fun _ U o U' => ∃ v L, o = .returned v ∧ Q_clo Z a1 d lim h0 n0 v U'.heap L ∧ FrameEnd U o U' L ({ frames := 0, cells := 0, slots := 0, locals := 0 } : Room).cells ({ frames := 0, cells := 0, slots := 0, locals := 0 } : Room).slots) := by
  refine MetFree.of_bodySF (plainFor_of_name pn_clo) hisR ?_
  intro p e s m args below meth c s₁ Bd hml0 hP hK
  obtain ⟨rfl, hZ, hh⟩ := hP
  have hx := Bd.exec
  have hby := Bd.bytes
  have hml : c.maxLocals = 1 := hml0
  have hown : s.vm.findClass "com/example/samewire/samewire/Nesting" = some m.cls := findClass_of_methodNamed Bd.named
  have hnm := (name_of_methodNamed Bd.named Bd.method).1
  have X0 : Stand p l e ({ frames := 0, cells := 0, slots := 0, locals := 0 } : Room) s m #[(.ref a1)] below meth c s₁ [] 0 0 := Stand.of_body Bd
  have e0 : s₁.heap = h0 := by rw [← hh, Bd.state]; rfl
  have N0 := Fr.nil n0
  have pre0 : ∀ t, Steps p.tables e below (s₁.setTop (mkF m 0 #[.val (.ref a1)] [])) t → Steps p.tables e below (s₁.setTop (entryFrame m #[(.ref a1)] 1)) t := fun t k => castTop (ef_clo m a1) k
  have K2 : Keep h0 h0 [a1] := Keep.refl h0 [a1]
  have pre3 : ∀ t, Steps p.tables e below (s₁.setTop (mkF m 2 #[.val (.ref a1)] [(.ref a1), (.ref a1)])) t → Steps p.tables e below (s₁.setTop (entryFrame m #[(.ref a1)] 1)) t := fun t k => pre0 t (by
    show Steps p.tables e below (s₁.setTop (mkF m 0 #[.val (.ref a1)] [])) _
    refine XS.aloadN X0.here hx rfl (hb hby dclo_0) rfl rfl ?_
    show Steps p.tables e below (s₁.setTop (mkF m 1 #[.val (.ref a1)] [(.ref a1)])) _
    refine XS.dup X0.here hx rfl (hb hby dclo_1) rfl rfl ?_
    show Steps p.tables e below (s₁.setTop (mkF m 2 #[.val (.ref a1)] [(.ref a1), (.ref a1)])) _
    exact k)
  obtain ⟨T4, X4, e4, st4⟩ := getF X0 hx hZ hown (host := "") (Or.inl (hw _ (List.mem_of_getElem? (i := 22) rfl))) Via.refl e0 Fd (g := (mkF m 2 #[.val (.ref a1)] [(.ref a1), (.ref a1)])) rfl rfl (hb hby dclo_2)
  have pre5 : ∀ t, Steps p.tables e below (T4.setTop (mkF m 7 #[.val (.ref a1)] [(.int (d - (1 : Int32))), (.ref a1)])) t → Steps p.tables e below (s₁.setTop (entryFrame m #[(.ref a1)] 1)) t := fun t k => pre3 t (by
    show Steps p.tables e below (s₁.setTop (mkF m 2 #[.val (.ref a1)] [(.ref a1), (.ref a1)])) _
    refine st4 _ ?_
    show Steps p.tables e below (T4.setTop (mkF m 5 #[.val (.ref a1)] [(.int d), (.ref a1)])) _
    refine XS.iconst X4.here hx rfl (hb hby dclo_5) ?_
    show Steps p.tables e below (T4.setTop (mkF m 6 #[.val (.ref a1)] [(.int (1 : Int32)), (.int d), (.ref a1)])) _
    refine XS.isub X4.here hx rfl (hb hby dclo_6) rfl ?_
    show Steps p.tables e below (T4.setTop (mkF m 7 #[.val (.ref a1)] [(.int (d - (1 : Int32))), (.ref a1)])) _
    exact k)
  obtain ⟨T6, h6, X6, e6, W6, st6⟩ := putF X4 hx hZ hown (host := "") (Or.inl (hw _ (List.mem_of_getElem? (i := 22) rfl))) Via.refl e4 Fd E1 (Or.inl (hw _ (List.mem_of_getElem? (i := 23) rfl))) (hw _ (List.mem_of_getElem? (i := 2) rfl)) (ty := .int) (by decide) rfl rfl (g := (mkF m 7 #[.val (.ref a1)] [(.int (d - (1 : Int32))), (.ref a1)])) rfl rfl (hb hby dclo_7)
  have F6 := Fd.same W6
  have N6 := Fr.snoc X6 N0 g_a1
  have f7_0 := E1.wr W6
  have f7_2 := Fl.other W6 (Or.inr (slot_ne (Or.inr (hw _ (List.mem_of_getElem? (i := 11) rfl))) (Or.inl (hw _ (List.mem_of_getElem? (i := 23) rfl))) (by decide) (t := .int) (t' := .int) (by decide) (by decide)))
  have K8 := K2.wr W6 (Or.inl (List.mem_of_getElem? (i := 0) rfl))
  have Z6 : n0 ≤ h6.size := Nat.le_trans Z0 (Keep.of_wr W6).1
  have pre9 : ∀ t, Steps p.tables e below (T6.setTop (mkF m 10 #[.val (.ref a1)] [])) t → Steps p.tables e below (s₁.setTop (entryFrame m #[(.ref a1)] 1)) t := fun t k => pre5 t (by
    show Steps p.tables e below (T4.setTop (mkF m 7 #[.val (.ref a1)] [(.int (d - (1 : Int32))), (.ref a1)])) _
    refine st6 _ ?_
    show Steps p.tables e below (T6.setTop (mkF m 10 #[.val (.ref a1)] [])) _
    exact k)
  obtain ⟨fs, hr, hrun, hended, hW, hsame⟩ := X6.leave (v := none) (fun _ => rfl)
  refine ⟨_, _, pre9 _ ?_, hrun, hended, _, _, rfl, ?_, ⟨_, rfl⟩, hW, hsame.mono (by decide) (by decide)⟩
  · exact X6.returnOut hx Bd.returns (hb hby dclo_10) hr
  · show Q_clo Z a1 d lim h0 n0 _ T6.heap _
    rw [e6]
    exact ⟨rfl, N6, K8, F6, f7_2⟩
theorem dope_0 : decode prog_26_method_2_code 0 = .ok (.aload_n 0, 1) := by decide +kernel
theorem dope_1 : decode prog_26_method_2_code 1 = .ok (.dup, 1) := by decide +kernel
theorem dope_2 : decode prog_26_method_2_code 2 = .ok (.getfield 22, 3) := by decide +kernel
theorem dope_5 : decode prog_26_method_2_code 5 = .ok (.iconst 1, 1) := by decide +kernel
theorem dope_6 : decode prog_26_method_2_code 6 = .ok (.iadd, 1) := by decide +kernel
theorem dope_7 : decode prog_26_method_2_code 7 = .ok (.putfield 22, 3) := by decide +kernel
theorem dope_10 : decode prog_26_method_2_code 10 = .ok (.aload_n 0, 1) := by decide +kernel
theorem dope_11 : decode prog_26_method_2_code 11 = .ok (.getfield 22, 3) := by decide +kernel
theorem dope_14 : decode prog_26_method_2_code 14 = .ok (.aload_n 0, 1) := by decide +kernel
theorem dope_15 : decode prog_26_method_2_code 15 = .ok (.getfield 18, 3) := by decide +kernel
theorem dope_18 : decode prog_26_method_2_code 18 = .ok (.if_icmp .gt 7, 3) := by decide +kernel
theorem dope_21 : decode prog_26_method_2_code 21 = .ok (.iconst 1, 1) := by decide +kernel
theorem dope_22 : decode prog_26_method_2_code 22 = .ok (.goto 4, 3) := by decide +kernel
theorem dope_25 : decode prog_26_method_2_code 25 = .ok (.iconst 0, 1) := by decide +kernel
theorem dope_26 : decode prog_26_method_2_code 26 = .ok (.ireturn, 1) := by decide +kernel
theorem pn_ope : plainName "com/example/samewire/samewire/Nesting" = true := by first | (simp [plainName, overriddenIn]; done) | decide +kernel
theorem ef_ope (m : MethodId) (a1 : Addr) : entryFrame m #[(.ref a1)] 1 = (mkF m 0 #[.val (.ref a1)] []) := by first | (simp [entryFrame, mkF, argsToLocals, Value.category]; done) | rfl
def Q_ope (Z : State) (a1 : Addr) (d lim rr : Int32) (h0 : Heap) (n0 : Nat) (v : Option Value) (h : Heap) (L : List Loc) : Prop := v = some (.int rr) ∧ Fr n0 L ∧ Keep h0 h [a1] ∧ Fld Z h a1 "com/example/samewire/samewire/Nesting" "depth" "I" (.int (d + 1)) ∧ Fld Z h a1 "com/example/samewire/samewire/Nesting" "limit" "I" (.int lim)
set_option maxRecDepth 65536 in
set_option maxHeartbeats 40000000 in
theorem rm_ope (l : Launch) (Z : State) (a0 : Array Value) (hw : ∀ d ∈ tables_1, d.before a0 Z = true) (ws : List Jvm.Cond) (a1 : Addr) (d lim rr : Int32) (h0 : Heap) (n0 : Nat) (Z0 : n0 ≤ h0.size) (E1 : Exa Z h0 a1 "com/example/samewire/samewire/Nesting") (Fd : Fld Z h0 a1 "com/example/samewire/samewire/Nesting" "depth" "I" (.int d)) (Fl : Fld Z h0 a1 "com/example/samewire/samewire/Nesting" "limit" "I" (.int lim)) (g_a1 : n0 ≤ a1) (hr1 : lim < d + 1 → rr = 0) (hr0 : ¬ lim < d + 1 → rr = 1) :
    MetFree l (⟨"com/example/samewire/samewire/Nesting", "open", "()Z"⟩ : MethodName) (head1 (Jvm.Cond.code (⟨"com/example/samewire/samewire/Nesting", "open", "()Z"⟩ : MethodName) prog_26_method_2_code 1 (some .boolean) :: ws) ({ frames := 0, cells := 0, slots := 0, locals := 0 } : Room)) (fun a U => a = #[(.ref a1)] ∧ Z.Warmed39 U.vm ∧ U.heap = h0) (fun _ _ _ _ _ => True) (fun _ U o U' => ∃ v L, o = .returned v ∧ Q_ope Z a1 d lim rr h0 n0 v U'.heap L ∧ FrameEnd U o U' L ({ frames := 0, cells := 0, slots := 0, locals := 0 } : Room).cells ({ frames := 0, cells := 0, slots := 0, locals := 0 } : Room).slots) := by
  refine MetFree.of_bodySF (plainFor_of_name pn_ope) hisR ?_
  intro p e s m args below meth c s₁ Bd hml0 hP hK
  obtain ⟨rfl, hZ, hh⟩ := hP
  have hx := Bd.exec
  have hby := Bd.bytes
  have hml : c.maxLocals = 1 := hml0
  have hown : s.vm.findClass "com/example/samewire/samewire/Nesting" = some m.cls := findClass_of_methodNamed Bd.named
  have hnm := (name_of_methodNamed Bd.named Bd.method).1
  have X0 : Stand p l e ({ frames := 0, cells := 0, slots := 0, locals := 0 } : Room) s m #[(.ref a1)] below meth c s₁ [] 0 0 := Stand.of_body Bd
  have e0 : s₁.heap = h0 := by rw [← hh, Bd.state]; rfl
  have N0 := Fr.nil n0
  have pre0 : ∀ t, Steps p.tables e below (s₁.setTop (mkF m 0 #[.val (.ref a1)] [])) t → Steps p.tables e below (s₁.setTop (entryFrame m #[(.ref a1)] 1)) t := fun t k => castTop (ef_ope m a1) k
  have K2 : Keep h0 h0 [a1] := Keep.refl h0 [a1]
  have pre3 : ∀ t, Steps p.tables e below (s₁.setTop (mkF m 2 #[.val (.ref a1)] [(.ref a1), (.ref a1)])) t → Steps p.tables e below (s₁.setTop (entryFrame m #[(.ref a1)] 1)) t := fun t k => pre0 t (by
    show Steps p.tables e below (s₁.setTop (mkF m 0 #[.val (.ref a1)] [])) _
    refine XS.aloadN X0.here hx rfl (hb hby dope_0) rfl rfl ?_
    show Steps p.tables e below (s₁.setTop (mkF m 1 #[.val (.ref a1)] [(.ref a1)])) _
    refine XS.dup X0.here hx rfl (hb hby dope_1) rfl rfl ?_
    show Steps p.tables e below (s₁.setTop (mkF m 2 #[.val (.ref a1)] [(.ref a1), (.ref a1)])) _
    exact k)
  obtain ⟨T4, X4, e4, st4⟩ := getF X0 hx hZ hown (host := "") (Or.inl (hw _ (List.mem_of_getElem? (i := 22) rfl))) Via.refl e0 Fd (g := (mkF m 2 #[.val (.ref a1)] [(.ref a1), (.ref a1)])) rfl rfl (hb hby dope_2)
  have pre5 : ∀ t, Steps p.tables e below (T4.setTop (mkF m 7 #[.val (.ref a1)] [(.int (d + (1 : Int32))), (.ref a1)])) t → Steps p.tables e below (s₁.setTop (entryFrame m #[(.ref a1)] 1)) t := fun t k => pre3 t (by
    show Steps p.tables e below (s₁.setTop (mkF m 2 #[.val (.ref a1)] [(.ref a1), (.ref a1)])) _
    refine st4 _ ?_
    show Steps p.tables e below (T4.setTop (mkF m 5 #[.val (.ref a1)] [(.int d), (.ref a1)])) _
    refine XS.iconst X4.here hx rfl (hb hby dope_5) ?_
    show Steps p.tables e below (T4.setTop (mkF m 6 #[.val (.ref a1)] [(.int (1 : Int32)), (.int d), (.ref a1)])) _
    refine XS.iadd X4.here hx rfl (hb hby dope_6) rfl ?_
    show Steps p.tables e below (T4.setTop (mkF m 7 #[.val (.ref a1)] [(.int (d + (1 : Int32))), (.ref a1)])) _
    exact k)
  obtain ⟨T6, h6, X6, e6, W6, st6⟩ := putF X4 hx hZ hown (host := "") (Or.inl (hw _ (List.mem_of_getElem? (i := 22) rfl))) Via.refl e4 Fd E1 (Or.inl (hw _ (List.mem_of_getElem? (i := 23) rfl))) (hw _ (List.mem_of_getElem? (i := 2) rfl)) (ty := .int) (by decide) rfl rfl (g := (mkF m 7 #[.val (.ref a1)] [(.int (d + (1 : Int32))), (.ref a1)])) rfl rfl (hb hby dope_7)
  have F6 := Fd.same W6
  have N6 := Fr.snoc X6 N0 g_a1
  have f7_0 := E1.wr W6
  have f7_2 := Fl.other W6 (Or.inr (slot_ne (Or.inr (hw _ (List.mem_of_getElem? (i := 11) rfl))) (Or.inl (hw _ (List.mem_of_getElem? (i := 23) rfl))) (by decide) (t := .int) (t' := .int) (by decide) (by decide)))
  have K8 := K2.wr W6 (Or.inl (List.mem_of_getElem? (i := 0) rfl))
  have Z6 : n0 ≤ h6.size := Nat.le_trans Z0 (Keep.of_wr W6).1
  have pre9 : ∀ t, Steps p.tables e below (T6.setTop (mkF m 11 #[.val (.ref a1)] [(.ref a1)])) t → Steps p.tables e below (s₁.setTop (entryFrame m #[(.ref a1)] 1)) t := fun t k => pre5 t (by
    show Steps p.tables e below (T4.setTop (mkF m 7 #[.val (.ref a1)] [(.int (d + (1 : Int32))), (.ref a1)])) _
    refine st6 _ ?_
    show Steps p.tables e below (T6.setTop (mkF m 10 #[.val (.ref a1)] [])) _
    refine XS.aloadN X6.here hx rfl (hb hby dope_10) rfl rfl ?_
    show Steps p.tables e below (T6.setTop (mkF m 11 #[.val (.ref a1)] [(.ref a1)])) _
    exact k)
  obtain ⟨T10, X10, e10, st10⟩ := getF X6 hx hZ hown (host := "") (Or.inl (hw _ (List.mem_of_getElem? (i := 22) rfl))) Via.refl e6 F6 (g := (mkF m 11 #[.val (.ref a1)] [(.ref a1)])) rfl rfl (hb hby dope_11)
  have pre11 : ∀ t, Steps p.tables e below (T10.setTop (mkF m 15 #[.val (.ref a1)] [(.ref a1), (.int (d + (1 : Int32)))])) t → Steps p.tables e below (s₁.setTop (entryFrame m #[(.ref a1)] 1)) t := fun t k => pre9 t (by
    show Steps p.tables e below (T6.setTop (mkF m 11 #[.val (.ref a1)] [(.ref a1)])) _
    refine st10 _ ?_
    show Steps p.tables e below (T10.setTop (mkF m 14 #[.val (.ref a1)] [(.int (d + (1 : Int32)))])) _
    refine XS.aloadN X10.here hx rfl (hb hby dope_14) rfl rfl ?_
    show Steps p.tables e below (T10.setTop (mkF m 15 #[.val (.ref a1)] [(.ref a1), (.int (d + (1 : Int32)))])) _
    exact k)
  obtain ⟨T12, X12, e12, st12⟩ := getF X10 hx hZ hown (host := "") (Or.inl (hw _ (List.mem_of_getElem? (i := 10) rfl))) Via.refl e10 f7_2 (g := (mkF m 15 #[.val (.ref a1)] [(.ref a1), (.int (d + (1 : Int32)))])) rfl rfl (hb hby dope_15)
  have pre13 : ∀ t, Steps p.tables e below (T12.setTop (mkF m 18 #[.val (.ref a1)] [(.int lim), (.int (d + (1 : Int32)))])) t → Steps p.tables e below (s₁.setTop (entryFrame m #[(.ref a1)] 1)) t := fun t k => pre11 t (by
    show Steps p.tables e below (T10.setTop (mkF m 15 #[.val (.ref a1)] [(.ref a1), (.int (d + (1 : Int32)))])) _
    refine st12 _ ?_
    show Steps p.tables e below (T12.setTop (mkF m 18 #[.val (.ref a1)] [(.int lim), (.int (d + (1 : Int32)))])) _
    exact k)
  by_cases hc : lim < d + 1
  · skip
    have hf := hr1 hc
    have pre14 : ∀ t, Steps p.tables e below (T12.setTop (mkF m 26 #[.val (.ref a1)] [(.int (0 : Int32))])) t → Steps p.tables e below (s₁.setTop (entryFrame m #[(.ref a1)] 1)) t := fun t k => pre13 t (by
      show Steps p.tables e below (T12.setTop (mkF m 18 #[.val (.ref a1)] [(.int lim), (.int (d + (1 : Int32)))])) _
      refine XS.icmpYes X12.here hx rfl (pc0 := 18) (pc' := 25) rfl (hb hby dope_18) rfl (XT.ii_gt_t hc) (by decide) (by decide) ?_
      show Steps p.tables e below (T12.setTop (mkF m 25 #[.val (.ref a1)] [])) _
      refine XS.iconst X12.here hx rfl (hb hby dope_25) ?_
      show Steps p.tables e below (T12.setTop (mkF m 26 #[.val (.ref a1)] [(.int (0 : Int32))])) _
      exact k)
    obtain ⟨fs, hr, hrun, hended, hW, hsame⟩ := X12.leave (v := some (.int (0 : Int32))) (fun h => by rw [Bd.returns] at h; cases h)
    refine ⟨_, _, pre14 _ ?_, hrun, hended, _, _, rfl, ?_, ⟨_, rfl⟩, hW, hsame.mono (by decide) (by decide)⟩
    · exact retN X12 hx (t := .boolean) Bd.returns (by simp) (hb hby dope_26) hr
    · show Q_ope Z a1 d lim rr h0 n0 _ T12.heap _
      unfold Q_ope; rw [hf]
      rw [e12]
      exact ⟨rfl, N6, K8, F6, f7_2⟩
  · skip
    have hf := hr0 hc
    have pre14 : ∀ t, Steps p.tables e below (T12.setTop (mkF m 26 #[.val (.ref a1)] [(.int (1 : Int32))])) t → Steps p.tables e below (s₁.setTop (entryFrame m #[(.ref a1)] 1)) t := fun t k => pre13 t (by
      show Steps p.tables e below (T12.setTop (mkF m 18 #[.val (.ref a1)] [(.int lim), (.int (d + (1 : Int32)))])) _
      refine XS.icmpNo X12.here hx rfl (hb hby dope_18) rfl (XT.ii_gt_f hc) ?_
      show Steps p.tables e below (T12.setTop (mkF m 21 #[.val (.ref a1)] [])) _
      refine XS.iconst X12.here hx rfl (hb hby dope_21) ?_
      show Steps p.tables e below (T12.setTop (mkF m 22 #[.val (.ref a1)] [(.int (1 : Int32))])) _
      refine XS.goto X12.here hx rfl (pc0 := 22) (pc' := 26) rfl (hb hby dope_22) (by decide) (by decide) ?_
      show Steps p.tables e below (T12.setTop (mkF m 26 #[.val (.ref a1)] [(.int (1 : Int32))])) _
      exact k)
    obtain ⟨fs, hr, hrun, hended, hW, hsame⟩ := X12.leave (v := some (.int (1 : Int32))) (fun h => by rw [Bd.returns] at h; cases h)
    refine ⟨_, _, pre14 _ ?_, hrun, hended, _, _, rfl, ?_, ⟨_, rfl⟩, hW, hsame.mono (by decide) (by decide)⟩
    · exact retN X12 hx (t := .boolean) Bd.returns (by simp) (hb hby dope_26) hr
    · show Q_ope Z a1 d lim rr h0 n0 _ T12.heap _
      unfold Q_ope; rw [hf]
      rw [e12]
      exact ⟨rfl, N6, K8, F6, f7_2⟩
theorem dstp_0 : decode method_3_code 0 = .ok (.iload_n 3, 1) := by decide +kernel
theorem dstp_1 : decode method_3_code 1 = .ok (.iconst 2, 1) := by decide +kernel
theorem dstp_2 : decode method_3_code 2 = .ok (.iload 4, 2) := by decide +kernel
theorem dstp_4 : decode method_3_code 4 = .ok (.imul, 1) := by decide +kernel
theorem dstp_5 : decode method_3_code 5 = .ok (.iushr, 1) := by decide +kernel
theorem dstp_6 : decode method_3_code 6 = .ok (.iconst 3, 1) := by decide +kernel
theorem dstp_7 : decode method_3_code 7 = .ok (.iand, 1) := by decide +kernel
theorem dstp_8 : decode method_3_code 8 = .ok (.istore 5, 2) := by decide +kernel
theorem dstp_10 : decode method_3_code 10 = .ok (.iload 5, 2) := by decide +kernel
theorem dstp_12 : decode method_3_code 12 = .ok (.iconst 3, 1) := by decide +kernel
theorem dstp_13 : decode method_3_code 13 = .ok (.if_icmp .ne 18, 3) := by decide +kernel
theorem dstp_16 : decode method_3_code 16 = .ok (.aload_n 0, 1) := by decide +kernel
theorem dstp_17 : decode method_3_code 17 = .ok (.invokevirtual 19, 3) := by decide +kernel
theorem dstp_20 : decode method_3_code 20 = .ok (.aload_n 1, 1) := by decide +kernel
theorem dstp_21 : decode method_3_code 21 = .ok (.iconst 0, 1) := by decide +kernel
theorem dstp_22 : decode method_3_code 22 = .ok (.aload_n 1, 1) := by decide +kernel
theorem dstp_23 : decode method_3_code 23 = .ok (.iconst 0, 1) := by decide +kernel
theorem dstp_24 : decode method_3_code 24 = .ok (.iaload, 1) := by decide +kernel
theorem dstp_25 : decode method_3_code 25 = .ok (.iconst 1, 1) := by decide +kernel
theorem dstp_26 : decode method_3_code 26 = .ok (.isub, 1) := by decide +kernel
theorem dstp_27 : decode method_3_code 27 = .ok (.iastore, 1) := by decide +kernel
theorem dstp_28 : decode method_3_code 28 = .ok (.goto 42, 3) := by decide +kernel
theorem dstp_31 : decode method_3_code 31 = .ok (.aload_n 0, 1) := by decide +kernel
theorem dstp_32 : decode method_3_code 32 = .ok (.invokevirtual 22, 3) := by decide +kernel
theorem dstp_35 : decode method_3_code 35 = .ok (.istore 6, 2) := by decide +kernel
theorem dstp_37 : decode method_3_code 37 = .ok (.aload_n 1, 1) := by decide +kernel
theorem dstp_38 : decode method_3_code 38 = .ok (.iconst 0, 1) := by decide +kernel
theorem dstp_39 : decode method_3_code 39 = .ok (.aload_n 1, 1) := by decide +kernel
theorem dstp_40 : decode method_3_code 40 = .ok (.iconst 0, 1) := by decide +kernel
theorem dstp_41 : decode method_3_code 41 = .ok (.iaload, 1) := by decide +kernel
theorem dstp_42 : decode method_3_code 42 = .ok (.iconst 1, 1) := by decide +kernel
theorem dstp_43 : decode method_3_code 43 = .ok (.iadd, 1) := by decide +kernel
theorem dstp_44 : decode method_3_code 44 = .ok (.iastore, 1) := by decide +kernel
theorem dstp_45 : decode method_3_code 45 = .ok (.aload_n 1, 1) := by decide +kernel
theorem dstp_46 : decode method_3_code 46 = .ok (.iconst 0, 1) := by decide +kernel
theorem dstp_47 : decode method_3_code 47 = .ok (.iaload, 1) := by decide +kernel
theorem dstp_48 : decode method_3_code 48 = .ok (.iload_n 2, 1) := by decide +kernel
theorem dstp_49 : decode method_3_code 49 = .ok (.if_icmp .gt 7, 3) := by decide +kernel
theorem dstp_52 : decode method_3_code 52 = .ok (.iconst 1, 1) := by decide +kernel
theorem dstp_53 : decode method_3_code 53 = .ok (.goto 4, 3) := by decide +kernel
theorem dstp_56 : decode method_3_code 56 = .ok (.iconst 0, 1) := by decide +kernel
theorem dstp_57 : decode method_3_code 57 = .ok (.istore 7, 2) := by decide +kernel
theorem dstp_59 : decode method_3_code 59 = .ok (.iload 6, 2) := by decide +kernel
theorem dstp_61 : decode method_3_code 61 = .ok (.iload 7, 2) := by decide +kernel
theorem dstp_63 : decode method_3_code 63 = .ok (.if_icmp .eq 7, 3) := by decide +kernel
theorem dstp_70 : decode method_3_code 70 = .ok (.return_, 1) := by decide +kernel
theorem pd___V : parseMethodDescriptor "()V" = some ⟨[], none⟩ := by decide +kernel
theorem pd___Z : parseMethodDescriptor "()Z" = some ⟨[], some .boolean⟩ := by decide +kernel
theorem pn_stp : plainName "com/example/samewire/samewire/NestingOpenPinLaw" = true := by first | (simp [plainName, overriddenIn]; done) | decide +kernel
theorem ef_stp (m : MethodId) (a1 : Addr) (b1 : Addr) (lim : Int32) (ops : Int32) (ix : Int32) : entryFrame m #[(.ref a1), (.ref b1), (.int lim), (.int ops), (.int ix)] 8 = (mkF m 0 #[.val (.ref a1), .val (.ref b1), .val (.int lim), .val (.int ops), .val (.int ix), .unset, .unset, .unset] []) := by first | (simp [entryFrame, mkF, argsToLocals, Value.category]; done) | rfl
def Q_stp (Z : State) (a1 b1 : Addr) (lim ops ix d : Int32) (k : ClassId) (h0 : Heap) (n0 : Nat) (v : Option Value) (h : Heap) (L : List Loc) : Prop := v = none ∧ Fr n0 L ∧ Keep h0 h [a1, b1] ∧ ∃ d' : Int32, Fld Z h a1 "com/example/samewire/samewire/Nesting" "depth" "I" (.int d') ∧ Fld Z h a1 "com/example/samewire/samewire/Nesting" "limit" "I" (.int lim) ∧ Arv Z h b1 k .int 2 [(.int d'), (.int 1)] (.int 0)
set_option maxRecDepth 65536 in
set_option maxHeartbeats 40000000 in
theorem rm_stp (l : Launch) (Z : State) (a0 : Array Value) (hw : ∀ d ∈ tables_1, d.before a0 Z = true) (ws : List Jvm.Cond) (a1 b1 : Addr) (lim ops ix d : Int32) (k : ClassId) (h0 : Heap) (n0 : Nat) (Z0 : n0 ≤ h0.size) (E1 : Exa Z h0 a1 "com/example/samewire/samewire/Nesting") (Fd : Fld Z h0 a1 "com/example/samewire/samewire/Nesting" "depth" "I" (.int d)) (Fl : Fld Z h0 a1 "com/example/samewire/samewire/Nesting" "limit" "I" (.int lim)) (V1 : Arv Z h0 b1 k .int 2 [(.int d), (.int 1)] (.int 0)) (ne : a1 ≠ b1) (g_a1 : n0 ≤ a1) (g_b1 : n0 ≤ b1) :
    MetFree l (⟨"com/example/samewire/samewire/NestingOpenPinLaw", "step", "(Lcom/example/samewire/samewire/Nesting;[IIII)V"⟩ : MethodName) (head1 (Jvm.Cond.code (⟨"com/example/samewire/samewire/NestingOpenPinLaw", "step", "(Lcom/example/samewire/samewire/Nesting;[IIII)V"⟩ : MethodName) method_3_code 8 none :: ws) ({ frames := 1, cells := 0, slots := 0, locals := 13 } : Room)) (fun a U => a = #[(.ref a1), (.ref b1), (.int lim), (.int ops), (.int ix)] ∧ Z.Warmed39 U.vm ∧ U.heap = h0) (fun _ _ _ _ _ => True) (fun _ U o U' => ∃ v L, o = .returned v ∧ Q_stp Z a1 b1 lim ops ix d k h0 n0 v U'.heap L ∧ FrameEnd U o U' L ({ frames := 1, cells := 0, slots := 0, locals := 13 } : Room).cells ({ frames := 1, cells := 0, slots := 0, locals := 13 } : Room).slots) := by
  refine MetFree.of_bodySF (plainFor_of_name pn_stp) hisR ?_
  intro p e s m args below meth c s₁ Bd hml0 hP hK
  obtain ⟨rfl, hZ, hh⟩ := hP
  have hx := Bd.exec
  have hby := Bd.bytes
  have hml : c.maxLocals = 8 := hml0
  have hown : s.vm.findClass "com/example/samewire/samewire/NestingOpenPinLaw" = some m.cls := findClass_of_methodNamed Bd.named
  have hnm := (name_of_methodNamed Bd.named Bd.method).1
  have X0 : Stand p l e ({ frames := 1, cells := 0, slots := 0, locals := 13 } : Room) s m #[(.ref a1), (.ref b1), (.int lim), (.int ops), (.int ix)] below meth c s₁ [] 0 0 := Stand.of_body Bd
  have e0 : s₁.heap = h0 := by rw [← hh, Bd.state]; rfl
  have N0 := Fr.nil n0
  have pre0 : ∀ t, Steps p.tables e below (s₁.setTop (mkF m 0 #[.val (.ref a1), .val (.ref b1), .val (.int lim), .val (.int ops), .val (.int ix), .unset, .unset, .unset] [])) t → Steps p.tables e below (s₁.setTop (entryFrame m #[(.ref a1), (.ref b1), (.int lim), (.int ops), (.int ix)] 8)) t := fun t k => castTop (ef_stp m a1 b1 lim ops ix) k
  have K2 : Keep h0 h0 [a1, b1] := Keep.refl h0 [a1, b1]
  have pre3 : ∀ t, Steps p.tables e below (s₁.setTop (mkF m 13 #[.val (.ref a1), .val (.ref b1), .val (.int lim), .val (.int ops), .val (.int ix), .val (.int ((XT.ushr ops ((2 : Int32) * ix)) &&& (3 : Int32))), .unset, .unset] [(.int (3 : Int32)), (.int ((XT.ushr ops ((2 : Int32) * ix)) &&& (3 : Int32)))])) t → Steps p.tables e below (s₁.setTop (entryFrame m #[(.ref a1), (.ref b1), (.int lim), (.int ops), (.int ix)] 8)) t := fun t k => pre0 t (by
    show Steps p.tables e below (s₁.setTop (mkF m 0 #[.val (.ref a1), .val (.ref b1), .val (.int lim), .val (.int ops), .val (.int ix), .unset, .unset, .unset] [])) _
    refine XS.iloadN X0.here hx rfl (hb hby dstp_0) rfl ?_
    show Steps p.tables e below (s₁.setTop (mkF m 1 #[.val (.ref a1), .val (.ref b1), .val (.int lim), .val (.int ops), .val (.int ix), .unset, .unset, .unset] [(.int ops)])) _
    refine XS.iconst X0.here hx rfl (hb hby dstp_1) ?_
    show Steps p.tables e below (s₁.setTop (mkF m 2 #[.val (.ref a1), .val (.ref b1), .val (.int lim), .val (.int ops), .val (.int ix), .unset, .unset, .unset] [(.int (2 : Int32)), (.int ops)])) _
    refine XS.iload X0.here hx rfl (hb hby dstp_2) rfl ?_
    show Steps p.tables e below (s₁.setTop (mkF m 4 #[.val (.ref a1), .val (.ref b1), .val (.int lim), .val (.int ops), .val (.int ix), .unset, .unset, .unset] [(.int ix), (.int (2 : Int32)), (.int ops)])) _
    refine XS.imul X0.here hx rfl (hb hby dstp_4) rfl ?_
    show Steps p.tables e below (s₁.setTop (mkF m 5 #[.val (.ref a1), .val (.ref b1), .val (.int lim), .val (.int ops), .val (.int ix), .unset, .unset, .unset] [(.int ((2 : Int32) * ix)), (.int ops)])) _
    refine XT.iushr X0.here hx rfl (hb hby dstp_5) rfl ?_
    show Steps p.tables e below (s₁.setTop (mkF m 6 #[.val (.ref a1), .val (.ref b1), .val (.int lim), .val (.int ops), .val (.int ix), .unset, .unset, .unset] [(.int (XT.ushr ops ((2 : Int32) * ix)))])) _
    refine XS.iconst X0.here hx rfl (hb hby dstp_6) ?_
    show Steps p.tables e below (s₁.setTop (mkF m 7 #[.val (.ref a1), .val (.ref b1), .val (.int lim), .val (.int ops), .val (.int ix), .unset, .unset, .unset] [(.int (3 : Int32)), (.int (XT.ushr ops ((2 : Int32) * ix)))])) _
    refine XS.iand X0.here hx rfl (hb hby dstp_7) rfl ?_
    show Steps p.tables e below (s₁.setTop (mkF m 8 #[.val (.ref a1), .val (.ref b1), .val (.int lim), .val (.int ops), .val (.int ix), .unset, .unset, .unset] [(.int ((XT.ushr ops ((2 : Int32) * ix)) &&& (3 : Int32)))])) _
    refine XS.istore X0.here hx rfl (hb hby dstp_8) rfl (l' := #[.val (.ref a1), .val (.ref b1), .val (.int lim), .val (.int ops), .val (.int ix), .val (.int ((XT.ushr ops ((2 : Int32) * ix)) &&& (3 : Int32))), .unset, .unset]) rfl ?_
    show Steps p.tables e below (s₁.setTop (mkF m 10 #[.val (.ref a1), .val (.ref b1), .val (.int lim), .val (.int ops), .val (.int ix), .val (.int ((XT.ushr ops ((2 : Int32) * ix)) &&& (3 : Int32))), .unset, .unset] [])) _
    refine XS.iload X0.here hx rfl (hb hby dstp_10) rfl ?_
    show Steps p.tables e below (s₁.setTop (mkF m 12 #[.val (.ref a1), .val (.ref b1), .val (.int lim), .val (.int ops), .val (.int ix), .val (.int ((XT.ushr ops ((2 : Int32) * ix)) &&& (3 : Int32))), .unset, .unset] [(.int ((XT.ushr ops ((2 : Int32) * ix)) &&& (3 : Int32)))])) _
    refine XS.iconst X0.here hx rfl (hb hby dstp_12) ?_
    show Steps p.tables e below (s₁.setTop (mkF m 13 #[.val (.ref a1), .val (.ref b1), .val (.int lim), .val (.int ops), .val (.int ix), .val (.int ((XT.ushr ops ((2 : Int32) * ix)) &&& (3 : Int32))), .unset, .unset] [(.int (3 : Int32)), (.int ((XT.ushr ops ((2 : Int32) * ix)) &&& (3 : Int32)))])) _
    exact k)
  by_cases hc : ((XT.ushr ops ((2 : Int32) * ix)) &&& (3 : Int32)) = (3 : Int32)
  · skip
    have pre4 : ∀ t, Steps p.tables e below (s₁.setTop (mkF m 17 #[.val (.ref a1), .val (.ref b1), .val (.int lim), .val (.int ops), .val (.int ix), .val (.int ((XT.ushr ops ((2 : Int32) * ix)) &&& (3 : Int32))), .unset, .unset] [(.ref a1)])) t → Steps p.tables e below (s₁.setTop (entryFrame m #[(.ref a1), (.ref b1), (.int lim), (.int ops), (.int ix)] 8)) t := fun t k => pre3 t (by
      show Steps p.tables e below (s₁.setTop (mkF m 13 #[.val (.ref a1), .val (.ref b1), .val (.int lim), .val (.int ops), .val (.int ix), .val (.int ((XT.ushr ops ((2 : Int32) * ix)) &&& (3 : Int32))), .unset, .unset] [(.int (3 : Int32)), (.int ((XT.ushr ops ((2 : Int32) * ix)) &&& (3 : Int32)))])) _
      refine XS.icmpNo X0.here hx rfl (hb hby dstp_13) rfl (XT.ii_ne_f hc) ?_
      show Steps p.tables e below (s₁.setTop (mkF m 16 #[.val (.ref a1), .val (.ref b1), .val (.int lim), .val (.int ops), .val (.int ix), .val (.int ((XT.ushr ops ((2 : Int32) * ix)) &&& (3 : Int32))), .unset, .unset] [])) _
      refine XS.aloadN X0.here hx rfl (hb hby dstp_16) rfl rfl ?_
      show Steps p.tables e below (s₁.setTop (mkF m 17 #[.val (.ref a1), .val (.ref b1), .val (.int lim), .val (.int ops), .val (.int ix), .val (.int ((XT.ushr ops ((2 : Int32) * ix)) &&& (3 : Int32))), .unset, .unset] [(.ref a1)])) _
      exact k)
    obtain ⟨cq5, kq5, q5a, q5b, q5c⟩ := isOf hZ e0 E1
    obtain ⟨_, _, ⟨T5, L5, kk5, nn5⟩, -, X5, ⟨Lc5, hQ5, l5, y5, z5⟩, st5⟩ := X0.virtualBack hx (y := (⟨"com/example/samewire/samewire/Nesting", "close", "()V"⟩ : MethodName)) (z := (⟨"com/example/samewire/samewire/Nesting", "close", "()V"⟩ : MethodName)) hown (mvT hZ (hw _ (List.mem_of_getElem? (i := 17) rfl))) (mvT hZ (hw _ (List.mem_of_getElem? (i := 18) rfl))) (notFace_of_selects (args := #[]) (mvT hZ (hw _ (List.mem_of_getElem? (i := 20) rfl)))) (mvT hZ (hw _ (List.mem_of_getElem? (i := 20) rfl))) (mvT hZ (hw _ (List.mem_of_getElem? (i := 19) rfl))) (by decide) (backOf (W := 0) (rm_clo l Z a0 hw [] a1 d lim h0 n0 Z0 E1 Fd Fl g_a1) hZ (hw _ (List.mem_of_getElem? (i := 21) rfl)) (hw _ (List.mem_of_getElem? (i := 3) rfl)) (by decide) (by decide)) q5a q5c (g := (mkF m 17 #[.val (.ref a1), .val (.ref b1), .val (.int lim), .val (.int ops), .val (.int ix), .val (.int ((XT.ushr ops ((2 : Int32) * ix)) &&& (3 : Int32))), .unset, .unset] [(.ref a1)])) rfl (by rw [hml]; rfl) (Steps.refl _) (argsL := []) (rest := []) (lenOf pd___V rfl) rfl (by show 2 * 0 + _ ≤ _; exact Nat.le_of_eq rfl) (hb hby dstp_17) (fun _ _ => ⟨rfl, e0, (by decide : 0 + 0 ≤ _), (by decide : 0 + 0 ≤ _)⟩)
    dsimp only [Pt.U, Pt.locs, Pt.cells, Pt.slots] at X5 l5 y5 z5 st5 hQ5
    subst l5 y5 z5
    obtain ⟨rfl, N5q, Kc5, Fd5, Fl5⟩ := hQ5
    have N5 := Fr.app N0 N5q
    have f6_0 := E1.keep Kc5
    have f6_3 := V1.keep Kc5 (by simp only [List.mem_cons, List.not_mem_nil, or_false, not_or]; exact ne.symm)
    have K7 := K2.trans Kc5 (fun x hx => by cases List.mem_singleton.mp hx; exact (Or.inl (List.mem_of_getElem? (i := 0) rfl)))
    have Z5 : n0 ≤ T5.heap.size := Nat.le_trans Z0 Kc5.1
    have e5 : T5.heap = T5.heap := rfl
    obtain ⟨cl8, Ar8, kc8, S8, M8, H8, G8⟩ := id f6_3
    have hin8 := inb_of S8 (j := (0 : Int32)) (by decide)
    have hat8 : cl8.slots[((0 : Int32)).toNatClampNeg]? = some (.int d) := H8.at hin8 rfl
    have pre9 : ∀ t, Steps p.tables e below (T5.setTop (mkF m 27 #[.val (.ref a1), .val (.ref b1), .val (.int lim), .val (.int ops), .val (.int ix), .val (.int ((XT.ushr ops ((2 : Int32) * ix)) &&& (3 : Int32))), .unset, .unset] [(.int (d - (1 : Int32))), (.int (0 : Int32)), (.ref b1)])) t → Steps p.tables e below (s₁.setTop (entryFrame m #[(.ref a1), (.ref b1), (.int lim), (.int ops), (.int ix)] 8)) t := fun t k => pre4 t (by
      show Steps p.tables e below (s₁.setTop (mkF m 17 #[.val (.ref a1), .val (.ref b1), .val (.int lim), .val (.int ops), .val (.int ix), .val (.int ((XT.ushr ops ((2 : Int32) * ix)) &&& (3 : Int32))), .unset, .unset] [(.ref a1)])) _
      refine st5.trans ?_
      show Steps p.tables e below (T5.setTop (mkF m 20 #[.val (.ref a1), .val (.ref b1), .val (.int lim), .val (.int ops), .val (.int ix), .val (.int ((XT.ushr ops ((2 : Int32) * ix)) &&& (3 : Int32))), .unset, .unset] [])) _
      refine XS.aloadN X5.here hx rfl (hb hby dstp_20) rfl rfl ?_
      show Steps p.tables e below (T5.setTop (mkF m 21 #[.val (.ref a1), .val (.ref b1), .val (.int lim), .val (.int ops), .val (.int ix), .val (.int ((XT.ushr ops ((2 : Int32) * ix)) &&& (3 : Int32))), .unset, .unset] [(.ref b1)])) _
      refine XS.iconst X5.here hx rfl (hb hby dstp_21) ?_
      show Steps p.tables e below (T5.setTop (mkF m 22 #[.val (.ref a1), .val (.ref b1), .val (.int lim), .val (.int ops), .val (.int ix), .val (.int ((XT.ushr ops ((2 : Int32) * ix)) &&& (3 : Int32))), .unset, .unset] [(.int (0 : Int32)), (.ref b1)])) _
      refine XS.aloadN X5.here hx rfl (hb hby dstp_22) rfl rfl ?_
      show Steps p.tables e below (T5.setTop (mkF m 23 #[.val (.ref a1), .val (.ref b1), .val (.int lim), .val (.int ops), .val (.int ix), .val (.int ((XT.ushr ops ((2 : Int32) * ix)) &&& (3 : Int32))), .unset, .unset] [(.ref b1), (.int (0 : Int32)), (.ref b1)])) _
      refine XS.iconst X5.here hx rfl (hb hby dstp_23) ?_
      show Steps p.tables e below (T5.setTop (mkF m 24 #[.val (.ref a1), .val (.ref b1), .val (.int lim), .val (.int ops), .val (.int ix), .val (.int ((XT.ushr ops ((2 : Int32) * ix)) &&& (3 : Int32))), .unset, .unset] [(.int (0 : Int32)), (.ref b1), (.int (0 : Int32)), (.ref b1)])) _
      refine X5.iaload hx (j := (0 : Int32)) (v := (.int d)) (by rw [e5]; exact Ar8.1) (State.isArrayOf_alike hZ.alike Ar8.2.1) Ar8.2.2 hin8 hat8 (g := (mkF m 24 #[.val (.ref a1), .val (.ref b1), .val (.int lim), .val (.int ops), .val (.int ix), .val (.int ((XT.ushr ops ((2 : Int32) * ix)) &&& (3 : Int32))), .unset, .unset] [(.int (0 : Int32)), (.ref b1), (.int (0 : Int32)), (.ref b1)])) rfl rfl (hb hby dstp_24) _ ?_
      show Steps p.tables e below (T5.setTop (mkF m 25 #[.val (.ref a1), .val (.ref b1), .val (.int lim), .val (.int ops), .val (.int ix), .val (.int ((XT.ushr ops ((2 : Int32) * ix)) &&& (3 : Int32))), .unset, .unset] [(.int d), (.int (0 : Int32)), (.ref b1)])) _
      refine XS.iconst X5.here hx rfl (hb hby dstp_25) ?_
      show Steps p.tables e below (T5.setTop (mkF m 26 #[.val (.ref a1), .val (.ref b1), .val (.int lim), .val (.int ops), .val (.int ix), .val (.int ((XT.ushr ops ((2 : Int32) * ix)) &&& (3 : Int32))), .unset, .unset] [(.int (1 : Int32)), (.int d), (.int (0 : Int32)), (.ref b1)])) _
      refine XS.isub X5.here hx rfl (hb hby dstp_26) rfl ?_
      show Steps p.tables e below (T5.setTop (mkF m 27 #[.val (.ref a1), .val (.ref b1), .val (.int lim), .val (.int ops), .val (.int ix), .val (.int ((XT.ushr ops ((2 : Int32) * ix)) &&& (3 : Int32))), .unset, .unset] [(.int (d - (1 : Int32))), (.int (0 : Int32)), (.ref b1)])) _
      exact k)
    obtain ⟨cl10, Ar10, kc10, S10, M10, H10, G10⟩ := id f6_3
    have hin10 := inb_of S10 (j := (0 : Int32)) (by decide)
    obtain ⟨T10, h10, X10, e10, W10, st10⟩ := stI X5 hx hZ e5 Ar10 (j := (0 : Int32)) hin10 (g := (mkF m 27 #[.val (.ref a1), .val (.ref b1), .val (.int lim), .val (.int ops), .val (.int ix), .val (.int ((XT.ushr ops ((2 : Int32) * ix)) &&& (3 : Int32))), .unset, .unset] [(.int (d - (1 : Int32))), (.int (0 : Int32)), (.ref b1)])) rfl rfl (hb hby dstp_27)
    have V10 : Arv Z h10 b1 k .int 2 [(.int (d - 1)), (.int 1)] (.int 0) := Arv.set Ar10 kc10 S10 M10 H10 G10 (v := (.int (d - (1 : Int32)))) rfl W10 0 (by decide) (by simp)
    have N10 := Fr.snoc X10 N5 g_b1
    have f11_0 := f6_0.wr W10
    have f11_2 := Fd5.other W10 (Or.inl ne)
    have f11_3 := Fl5.other W10 (Or.inl ne)
    have K12 := K7.wr W10 (Or.inl (List.mem_of_getElem? (i := 1) rfl))
    have Z10 : n0 ≤ h10.size := Nat.le_trans Z5 (Keep.of_wr W10).1
    have pre13 : ∀ t, Steps p.tables e below (T10.setTop (mkF m 70 #[.val (.ref a1), .val (.ref b1), .val (.int lim), .val (.int ops), .val (.int ix), .val (.int ((XT.ushr ops ((2 : Int32) * ix)) &&& (3 : Int32))), .unset, .unset] [])) t → Steps p.tables e below (s₁.setTop (entryFrame m #[(.ref a1), (.ref b1), (.int lim), (.int ops), (.int ix)] 8)) t := fun t k => pre9 t (by
      show Steps p.tables e below (T5.setTop (mkF m 27 #[.val (.ref a1), .val (.ref b1), .val (.int lim), .val (.int ops), .val (.int ix), .val (.int ((XT.ushr ops ((2 : Int32) * ix)) &&& (3 : Int32))), .unset, .unset] [(.int (d - (1 : Int32))), (.int (0 : Int32)), (.ref b1)])) _
      refine st10 _ ?_
      show Steps p.tables e below (T10.setTop (mkF m 28 #[.val (.ref a1), .val (.ref b1), .val (.int lim), .val (.int ops), .val (.int ix), .val (.int ((XT.ushr ops ((2 : Int32) * ix)) &&& (3 : Int32))), .unset, .unset] [])) _
      refine XS.goto X10.here hx rfl (pc0 := 28) (pc' := 70) rfl (hb hby dstp_28) (by decide) (by decide) ?_
      show Steps p.tables e below (T10.setTop (mkF m 70 #[.val (.ref a1), .val (.ref b1), .val (.int lim), .val (.int ops), .val (.int ix), .val (.int ((XT.ushr ops ((2 : Int32) * ix)) &&& (3 : Int32))), .unset, .unset] [])) _
      exact k)
    obtain ⟨fs, hr, hrun, hended, hW, hsame⟩ := X10.leave (v := none) (fun _ => rfl)
    refine ⟨_, _, pre13 _ ?_, hrun, hended, _, _, rfl, ?_, ⟨_, rfl⟩, hW, hsame.mono (by decide) (by decide)⟩
    · exact X10.returnOut hx Bd.returns (hb hby dstp_70) hr
    · show Q_stp Z a1 b1 lim ops ix d k h0 n0 _ T10.heap _
      rw [e10]
      exact ⟨rfl, N10, K12, (d - 1), f11_2, f11_3, V10⟩
  · skip
    have pre4 : ∀ t, Steps p.tables e below (s₁.setTop (mkF m 32 #[.val (.ref a1), .val (.ref b1), .val (.int lim), .val (.int ops), .val (.int ix), .val (.int ((XT.ushr ops ((2 : Int32) * ix)) &&& (3 : Int32))), .unset, .unset] [(.ref a1)])) t → Steps p.tables e below (s₁.setTop (entryFrame m #[(.ref a1), (.ref b1), (.int lim), (.int ops), (.int ix)] 8)) t := fun t k => pre3 t (by
      show Steps p.tables e below (s₁.setTop (mkF m 13 #[.val (.ref a1), .val (.ref b1), .val (.int lim), .val (.int ops), .val (.int ix), .val (.int ((XT.ushr ops ((2 : Int32) * ix)) &&& (3 : Int32))), .unset, .unset] [(.int (3 : Int32)), (.int ((XT.ushr ops ((2 : Int32) * ix)) &&& (3 : Int32)))])) _
      refine XS.icmpYes X0.here hx rfl (pc0 := 13) (pc' := 31) rfl (hb hby dstp_13) rfl (XT.ii_ne_t hc) (by decide) (by decide) ?_
      show Steps p.tables e below (s₁.setTop (mkF m 31 #[.val (.ref a1), .val (.ref b1), .val (.int lim), .val (.int ops), .val (.int ix), .val (.int ((XT.ushr ops ((2 : Int32) * ix)) &&& (3 : Int32))), .unset, .unset] [])) _
      refine XS.aloadN X0.here hx rfl (hb hby dstp_31) rfl rfl ?_
      show Steps p.tables e below (s₁.setTop (mkF m 32 #[.val (.ref a1), .val (.ref b1), .val (.int lim), .val (.int ops), .val (.int ix), .val (.int ((XT.ushr ops ((2 : Int32) * ix)) &&& (3 : Int32))), .unset, .unset] [(.ref a1)])) _
      exact k)
    by_cases hd : lim < d + 1
    · skip
      obtain ⟨cq5, kq5, q5a, q5b, q5c⟩ := isOf hZ e0 E1
      obtain ⟨_, _, ⟨T5, L5, kk5, nn5⟩, -, X5, ⟨Lc5, hQ5, l5, y5, z5⟩, st5⟩ := X0.virtualBack hx (y := (⟨"com/example/samewire/samewire/Nesting", "open", "()Z"⟩ : MethodName)) (z := (⟨"com/example/samewire/samewire/Nesting", "open", "()Z"⟩ : MethodName)) hown (mvT hZ (hw _ (List.mem_of_getElem? (i := 24) rfl))) (mvT hZ (hw _ (List.mem_of_getElem? (i := 25) rfl))) (notFace_of_selects (args := #[]) (mvT hZ (hw _ (List.mem_of_getElem? (i := 27) rfl)))) (mvT hZ (hw _ (List.mem_of_getElem? (i := 27) rfl))) (mvT hZ (hw _ (List.mem_of_getElem? (i := 26) rfl))) (by decide) (backOf (W := 0) (rm_ope l Z a0 hw [] a1 d lim 0 h0 n0 Z0 E1 Fd Fl g_a1 (fun _ => rfl) (fun h => absurd hd h)) hZ (hw _ (List.mem_of_getElem? (i := 28) rfl)) (hw _ (List.mem_of_getElem? (i := 3) rfl)) (by decide) (by decide)) q5a q5c (g := (mkF m 32 #[.val (.ref a1), .val (.ref b1), .val (.int lim), .val (.int ops), .val (.int ix), .val (.int ((XT.ushr ops ((2 : Int32) * ix)) &&& (3 : Int32))), .unset, .unset] [(.ref a1)])) rfl (by rw [hml]; rfl) (Steps.refl _) (argsL := []) (rest := []) (lenOf pd___Z rfl) rfl (by show 2 * 0 + _ ≤ _; exact Nat.le_of_eq rfl) (hb hby dstp_32) (fun _ _ => ⟨rfl, e0, (by decide : 0 + 0 ≤ _), (by decide : 0 + 0 ≤ _)⟩)
      dsimp only [Pt.U, Pt.locs, Pt.cells, Pt.slots] at X5 l5 y5 z5 st5 hQ5
      subst l5 y5 z5
      obtain ⟨rfl, N5q, Kc5, Fd5, Fl5⟩ := hQ5
      have N5 := Fr.app N0 N5q
      have f6_0 := E1.keep Kc5
      have f6_3 := V1.keep Kc5 (by simp only [List.mem_cons, List.not_mem_nil, or_false, not_or]; exact ne.symm)
      have K7 := K2.trans Kc5 (fun x hx => by cases List.mem_singleton.mp hx; exact (Or.inl (List.mem_of_getElem? (i := 0) rfl)))
      have Z5 : n0 ≤ T5.heap.size := Nat.le_trans Z0 Kc5.1
      have e5 : T5.heap = T5.heap := rfl
      obtain ⟨cl8, Ar8, kc8, S8, M8, H8, G8⟩ := id f6_3
      have hin8 := inb_of S8 (j := (0 : Int32)) (by decide)
      have hat8 : cl8.slots[((0 : Int32)).toNatClampNeg]? = some (.int d) := H8.at hin8 rfl
      have pre9 : ∀ t, Steps p.tables e below (T5.setTop (mkF m 44 #[.val (.ref a1), .val (.ref b1), .val (.int lim), .val (.int ops), .val (.int ix), .val (.int ((XT.ushr ops ((2 : Int32) * ix)) &&& (3 : Int32))), .val (.int (0 : Int32)), .unset] [(.int (d + (1 : Int32))), (.int (0 : Int32)), (.ref b1)])) t → Steps p.tables e below (s₁.setTop (entryFrame m #[(.ref a1), (.ref b1), (.int lim), (.int ops), (.int ix)] 8)) t := fun t k => pre4 t (by
        show Steps p.tables e below (s₁.setTop (mkF m 32 #[.val (.ref a1), .val (.ref b1), .val (.int lim), .val (.int ops), .val (.int ix), .val (.int ((XT.ushr ops ((2 : Int32) * ix)) &&& (3 : Int32))), .unset, .unset] [(.ref a1)])) _
        refine st5.trans ?_
        show Steps p.tables e below (T5.setTop (mkF m 35 #[.val (.ref a1), .val (.ref b1), .val (.int lim), .val (.int ops), .val (.int ix), .val (.int ((XT.ushr ops ((2 : Int32) * ix)) &&& (3 : Int32))), .unset, .unset] [(.int (0 : Int32))])) _
        refine XS.istore X5.here hx rfl (hb hby dstp_35) rfl (l' := #[.val (.ref a1), .val (.ref b1), .val (.int lim), .val (.int ops), .val (.int ix), .val (.int ((XT.ushr ops ((2 : Int32) * ix)) &&& (3 : Int32))), .val (.int (0 : Int32)), .unset]) rfl ?_
        show Steps p.tables e below (T5.setTop (mkF m 37 #[.val (.ref a1), .val (.ref b1), .val (.int lim), .val (.int ops), .val (.int ix), .val (.int ((XT.ushr ops ((2 : Int32) * ix)) &&& (3 : Int32))), .val (.int (0 : Int32)), .unset] [])) _
        refine XS.aloadN X5.here hx rfl (hb hby dstp_37) rfl rfl ?_
        show Steps p.tables e below (T5.setTop (mkF m 38 #[.val (.ref a1), .val (.ref b1), .val (.int lim), .val (.int ops), .val (.int ix), .val (.int ((XT.ushr ops ((2 : Int32) * ix)) &&& (3 : Int32))), .val (.int (0 : Int32)), .unset] [(.ref b1)])) _
        refine XS.iconst X5.here hx rfl (hb hby dstp_38) ?_
        show Steps p.tables e below (T5.setTop (mkF m 39 #[.val (.ref a1), .val (.ref b1), .val (.int lim), .val (.int ops), .val (.int ix), .val (.int ((XT.ushr ops ((2 : Int32) * ix)) &&& (3 : Int32))), .val (.int (0 : Int32)), .unset] [(.int (0 : Int32)), (.ref b1)])) _
        refine XS.aloadN X5.here hx rfl (hb hby dstp_39) rfl rfl ?_
        show Steps p.tables e below (T5.setTop (mkF m 40 #[.val (.ref a1), .val (.ref b1), .val (.int lim), .val (.int ops), .val (.int ix), .val (.int ((XT.ushr ops ((2 : Int32) * ix)) &&& (3 : Int32))), .val (.int (0 : Int32)), .unset] [(.ref b1), (.int (0 : Int32)), (.ref b1)])) _
        refine XS.iconst X5.here hx rfl (hb hby dstp_40) ?_
        show Steps p.tables e below (T5.setTop (mkF m 41 #[.val (.ref a1), .val (.ref b1), .val (.int lim), .val (.int ops), .val (.int ix), .val (.int ((XT.ushr ops ((2 : Int32) * ix)) &&& (3 : Int32))), .val (.int (0 : Int32)), .unset] [(.int (0 : Int32)), (.ref b1), (.int (0 : Int32)), (.ref b1)])) _
        refine X5.iaload hx (j := (0 : Int32)) (v := (.int d)) (by rw [e5]; exact Ar8.1) (State.isArrayOf_alike hZ.alike Ar8.2.1) Ar8.2.2 hin8 hat8 (g := (mkF m 41 #[.val (.ref a1), .val (.ref b1), .val (.int lim), .val (.int ops), .val (.int ix), .val (.int ((XT.ushr ops ((2 : Int32) * ix)) &&& (3 : Int32))), .val (.int (0 : Int32)), .unset] [(.int (0 : Int32)), (.ref b1), (.int (0 : Int32)), (.ref b1)])) rfl rfl (hb hby dstp_41) _ ?_
        show Steps p.tables e below (T5.setTop (mkF m 42 #[.val (.ref a1), .val (.ref b1), .val (.int lim), .val (.int ops), .val (.int ix), .val (.int ((XT.ushr ops ((2 : Int32) * ix)) &&& (3 : Int32))), .val (.int (0 : Int32)), .unset] [(.int d), (.int (0 : Int32)), (.ref b1)])) _
        refine XS.iconst X5.here hx rfl (hb hby dstp_42) ?_
        show Steps p.tables e below (T5.setTop (mkF m 43 #[.val (.ref a1), .val (.ref b1), .val (.int lim), .val (.int ops), .val (.int ix), .val (.int ((XT.ushr ops ((2 : Int32) * ix)) &&& (3 : Int32))), .val (.int (0 : Int32)), .unset] [(.int (1 : Int32)), (.int d), (.int (0 : Int32)), (.ref b1)])) _
        refine XS.iadd X5.here hx rfl (hb hby dstp_43) rfl ?_
        show Steps p.tables e below (T5.setTop (mkF m 44 #[.val (.ref a1), .val (.ref b1), .val (.int lim), .val (.int ops), .val (.int ix), .val (.int ((XT.ushr ops ((2 : Int32) * ix)) &&& (3 : Int32))), .val (.int (0 : Int32)), .unset] [(.int (d + (1 : Int32))), (.int (0 : Int32)), (.ref b1)])) _
        exact k)
      obtain ⟨cl10, Ar10, kc10, S10, M10, H10, G10⟩ := id f6_3
      have hin10 := inb_of S10 (j := (0 : Int32)) (by decide)
      obtain ⟨T10, h10, X10, e10, W10, st10⟩ := stI X5 hx hZ e5 Ar10 (j := (0 : Int32)) hin10 (g := (mkF m 44 #[.val (.ref a1), .val (.ref b1), .val (.int lim), .val (.int ops), .val (.int ix), .val (.int ((XT.ushr ops ((2 : Int32) * ix)) &&& (3 : Int32))), .val (.int (0 : Int32)), .unset] [(.int (d + (1 : Int32))), (.int (0 : Int32)), (.ref b1)])) rfl rfl (hb hby dstp_44)
      have V10 : Arv Z h10 b1 k .int 2 [(.int (d + 1)), (.int 1)] (.int 0) := Arv.set Ar10 kc10 S10 M10 H10 G10 (v := (.int (d + (1 : Int32)))) rfl W10 0 (by decide) (by simp)
      have N10 := Fr.snoc X10 N5 g_b1
      have f11_0 := f6_0.wr W10
      have f11_2 := Fd5.other W10 (Or.inl ne)
      have f11_3 := Fl5.other W10 (Or.inl ne)
      have K12 := K7.wr W10 (Or.inl (List.mem_of_getElem? (i := 1) rfl))
      have Z10 : n0 ≤ h10.size := Nat.le_trans Z5 (Keep.of_wr W10).1
      obtain ⟨cl13, Ar13, kc13, S13, M13, H13, G13⟩ := id V10
      have hin13 := inb_of S13 (j := (0 : Int32)) (by decide)
      have hat13 : cl13.slots[((0 : Int32)).toNatClampNeg]? = some (.int (d + (1 : Int32))) := H13.at hin13 rfl
      have pre14 : ∀ t, Steps p.tables e below (T10.setTop (mkF m 70 #[.val (.ref a1), .val (.ref b1), .val (.int lim), .val (.int ops), .val (.int ix), .val (.int ((XT.ushr ops ((2 : Int32) * ix)) &&& (3 : Int32))), .val (.int (0 : Int32)), .val (.int (0 : Int32))] [])) t → Steps p.tables e below (s₁.setTop (entryFrame m #[(.ref a1), (.ref b1), (.int lim), (.int ops), (.int ix)] 8)) t := fun t k => pre9 t (by
        show Steps p.tables e below (T5.setTop (mkF m 44 #[.val (.ref a1), .val (.ref b1), .val (.int lim), .val (.int ops), .val (.int ix), .val (.int ((XT.ushr ops ((2 : Int32) * ix)) &&& (3 : Int32))), .val (.int (0 : Int32)), .unset] [(.int (d + (1 : Int32))), (.int (0 : Int32)), (.ref b1)])) _
        refine st10 _ ?_
        show Steps p.tables e below (T10.setTop (mkF m 45 #[.val (.ref a1), .val (.ref b1), .val (.int lim), .val (.int ops), .val (.int ix), .val (.int ((XT.ushr ops ((2 : Int32) * ix)) &&& (3 : Int32))), .val (.int (0 : Int32)), .unset] [])) _
        refine XS.aloadN X10.here hx rfl (hb hby dstp_45) rfl rfl ?_
        show Steps p.tables e below (T10.setTop (mkF m 46 #[.val (.ref a1), .val (.ref b1), .val (.int lim), .val (.int ops), .val (.int ix), .val (.int ((XT.ushr ops ((2 : Int32) * ix)) &&& (3 : Int32))), .val (.int (0 : Int32)), .unset] [(.ref b1)])) _
        refine XS.iconst X10.here hx rfl (hb hby dstp_46) ?_
        show Steps p.tables e below (T10.setTop (mkF m 47 #[.val (.ref a1), .val (.ref b1), .val (.int lim), .val (.int ops), .val (.int ix), .val (.int ((XT.ushr ops ((2 : Int32) * ix)) &&& (3 : Int32))), .val (.int (0 : Int32)), .unset] [(.int (0 : Int32)), (.ref b1)])) _
        refine X10.iaload hx (j := (0 : Int32)) (v := (.int (d + (1 : Int32)))) (by rw [e10]; exact Ar13.1) (State.isArrayOf_alike hZ.alike Ar13.2.1) Ar13.2.2 hin13 hat13 (g := (mkF m 47 #[.val (.ref a1), .val (.ref b1), .val (.int lim), .val (.int ops), .val (.int ix), .val (.int ((XT.ushr ops ((2 : Int32) * ix)) &&& (3 : Int32))), .val (.int (0 : Int32)), .unset] [(.int (0 : Int32)), (.ref b1)])) rfl rfl (hb hby dstp_47) _ ?_
        show Steps p.tables e below (T10.setTop (mkF m 48 #[.val (.ref a1), .val (.ref b1), .val (.int lim), .val (.int ops), .val (.int ix), .val (.int ((XT.ushr ops ((2 : Int32) * ix)) &&& (3 : Int32))), .val (.int (0 : Int32)), .unset] [(.int (d + (1 : Int32)))])) _
        refine XS.iloadN X10.here hx rfl (hb hby dstp_48) rfl ?_
        show Steps p.tables e below (T10.setTop (mkF m 49 #[.val (.ref a1), .val (.ref b1), .val (.int lim), .val (.int ops), .val (.int ix), .val (.int ((XT.ushr ops ((2 : Int32) * ix)) &&& (3 : Int32))), .val (.int (0 : Int32)), .unset] [(.int lim), (.int (d + (1 : Int32)))])) _
        refine XS.icmpYes X10.here hx rfl (pc0 := 49) (pc' := 56) rfl (hb hby dstp_49) rfl (XT.ii_gt_t hd) (by decide) (by decide) ?_
        show Steps p.tables e below (T10.setTop (mkF m 56 #[.val (.ref a1), .val (.ref b1), .val (.int lim), .val (.int ops), .val (.int ix), .val (.int ((XT.ushr ops ((2 : Int32) * ix)) &&& (3 : Int32))), .val (.int (0 : Int32)), .unset] [])) _
        refine XS.iconst X10.here hx rfl (hb hby dstp_56) ?_
        show Steps p.tables e below (T10.setTop (mkF m 57 #[.val (.ref a1), .val (.ref b1), .val (.int lim), .val (.int ops), .val (.int ix), .val (.int ((XT.ushr ops ((2 : Int32) * ix)) &&& (3 : Int32))), .val (.int (0 : Int32)), .unset] [(.int (0 : Int32))])) _
        refine XS.istore X10.here hx rfl (hb hby dstp_57) rfl (l' := #[.val (.ref a1), .val (.ref b1), .val (.int lim), .val (.int ops), .val (.int ix), .val (.int ((XT.ushr ops ((2 : Int32) * ix)) &&& (3 : Int32))), .val (.int (0 : Int32)), .val (.int (0 : Int32))]) rfl ?_
        show Steps p.tables e below (T10.setTop (mkF m 59 #[.val (.ref a1), .val (.ref b1), .val (.int lim), .val (.int ops), .val (.int ix), .val (.int ((XT.ushr ops ((2 : Int32) * ix)) &&& (3 : Int32))), .val (.int (0 : Int32)), .val (.int (0 : Int32))] [])) _
        refine XS.iload X10.here hx rfl (hb hby dstp_59) rfl ?_
        show Steps p.tables e below (T10.setTop (mkF m 61 #[.val (.ref a1), .val (.ref b1), .val (.int lim), .val (.int ops), .val (.int ix), .val (.int ((XT.ushr ops ((2 : Int32) * ix)) &&& (3 : Int32))), .val (.int (0 : Int32)), .val (.int (0 : Int32))] [(.int (0 : Int32))])) _
        refine XS.iload X10.here hx rfl (hb hby dstp_61) rfl ?_
        show Steps p.tables e below (T10.setTop (mkF m 63 #[.val (.ref a1), .val (.ref b1), .val (.int lim), .val (.int ops), .val (.int ix), .val (.int ((XT.ushr ops ((2 : Int32) * ix)) &&& (3 : Int32))), .val (.int (0 : Int32)), .val (.int (0 : Int32))] [(.int (0 : Int32)), (.int (0 : Int32))])) _
        refine XS.icmpYes X10.here hx rfl (pc0 := 63) (pc' := 70) rfl (hb hby dstp_63) rfl (XT.ii_eq_t rfl) (by decide) (by decide) ?_
        show Steps p.tables e below (T10.setTop (mkF m 70 #[.val (.ref a1), .val (.ref b1), .val (.int lim), .val (.int ops), .val (.int ix), .val (.int ((XT.ushr ops ((2 : Int32) * ix)) &&& (3 : Int32))), .val (.int (0 : Int32)), .val (.int (0 : Int32))] [])) _
        exact k)
      obtain ⟨fs, hr, hrun, hended, hW, hsame⟩ := X10.leave (v := none) (fun _ => rfl)
      refine ⟨_, _, pre14 _ ?_, hrun, hended, _, _, rfl, ?_, ⟨_, rfl⟩, hW, hsame.mono (by decide) (by decide)⟩
      · exact X10.returnOut hx Bd.returns (hb hby dstp_70) hr
      · show Q_stp Z a1 b1 lim ops ix d k h0 n0 _ T10.heap _
        rw [e10]
        exact ⟨rfl, N10, K12, (d + 1), f11_2, f11_3, V10⟩
    · skip
      obtain ⟨cq5, kq5, q5a, q5b, q5c⟩ := isOf hZ e0 E1
      obtain ⟨_, _, ⟨T5, L5, kk5, nn5⟩, -, X5, ⟨Lc5, hQ5, l5, y5, z5⟩, st5⟩ := X0.virtualBack hx (y := (⟨"com/example/samewire/samewire/Nesting", "open", "()Z"⟩ : MethodName)) (z := (⟨"com/example/samewire/samewire/Nesting", "open", "()Z"⟩ : MethodName)) hown (mvT hZ (hw _ (List.mem_of_getElem? (i := 24) rfl))) (mvT hZ (hw _ (List.mem_of_getElem? (i := 25) rfl))) (notFace_of_selects (args := #[]) (mvT hZ (hw _ (List.mem_of_getElem? (i := 27) rfl)))) (mvT hZ (hw _ (List.mem_of_getElem? (i := 27) rfl))) (mvT hZ (hw _ (List.mem_of_getElem? (i := 26) rfl))) (by decide) (backOf (W := 0) (rm_ope l Z a0 hw [] a1 d lim 1 h0 n0 Z0 E1 Fd Fl g_a1 (fun h => absurd h hd) (fun _ => rfl)) hZ (hw _ (List.mem_of_getElem? (i := 28) rfl)) (hw _ (List.mem_of_getElem? (i := 3) rfl)) (by decide) (by decide)) q5a q5c (g := (mkF m 32 #[.val (.ref a1), .val (.ref b1), .val (.int lim), .val (.int ops), .val (.int ix), .val (.int ((XT.ushr ops ((2 : Int32) * ix)) &&& (3 : Int32))), .unset, .unset] [(.ref a1)])) rfl (by rw [hml]; rfl) (Steps.refl _) (argsL := []) (rest := []) (lenOf pd___Z rfl) rfl (by show 2 * 0 + _ ≤ _; exact Nat.le_of_eq rfl) (hb hby dstp_32) (fun _ _ => ⟨rfl, e0, (by decide : 0 + 0 ≤ _), (by decide : 0 + 0 ≤ _)⟩)
      dsimp only [Pt.U, Pt.locs, Pt.cells, Pt.slots] at X5 l5 y5 z5 st5 hQ5
      subst l5 y5 z5
      obtain ⟨rfl, N5q, Kc5, Fd5, Fl5⟩ := hQ5
      have N5 := Fr.app N0 N5q
      have f6_0 := E1.keep Kc5
      have f6_3 := V1.keep Kc5 (by simp only [List.mem_cons, List.not_mem_nil, or_false, not_or]; exact ne.symm)
      have K7 := K2.trans Kc5 (fun x hx => by cases List.mem_singleton.mp hx; exact (Or.inl (List.mem_of_getElem? (i := 0) rfl)))
      have Z5 : n0 ≤ T5.heap.size := Nat.le_trans Z0 Kc5.1
      have e5 : T5.heap = T5.heap := rfl
      obtain ⟨cl8, Ar8, kc8, S8, M8, H8, G8⟩ := id f6_3
      have hin8 := inb_of S8 (j := (0 : Int32)) (by decide)
      have hat8 : cl8.slots[((0 : Int32)).toNatClampNeg]? = some (.int d) := H8.at hin8 rfl
      have pre9 : ∀ t, Steps p.tables e below (T5.setTop (mkF m 44 #[.val (.ref a1), .val (.ref b1), .val (.int lim), .val (.int ops), .val (.int ix), .val (.int ((XT.ushr ops ((2 : Int32) * ix)) &&& (3 : Int32))), .val (.int (1 : Int32)), .unset] [(.int (d + (1 : Int32))), (.int (0 : Int32)), (.ref b1)])) t → Steps p.tables e below (s₁.setTop (entryFrame m #[(.ref a1), (.ref b1), (.int lim), (.int ops), (.int ix)] 8)) t := fun t k => pre4 t (by
        show Steps p.tables e below (s₁.setTop (mkF m 32 #[.val (.ref a1), .val (.ref b1), .val (.int lim), .val (.int ops), .val (.int ix), .val (.int ((XT.ushr ops ((2 : Int32) * ix)) &&& (3 : Int32))), .unset, .unset] [(.ref a1)])) _
        refine st5.trans ?_
        show Steps p.tables e below (T5.setTop (mkF m 35 #[.val (.ref a1), .val (.ref b1), .val (.int lim), .val (.int ops), .val (.int ix), .val (.int ((XT.ushr ops ((2 : Int32) * ix)) &&& (3 : Int32))), .unset, .unset] [(.int (1 : Int32))])) _
        refine XS.istore X5.here hx rfl (hb hby dstp_35) rfl (l' := #[.val (.ref a1), .val (.ref b1), .val (.int lim), .val (.int ops), .val (.int ix), .val (.int ((XT.ushr ops ((2 : Int32) * ix)) &&& (3 : Int32))), .val (.int (1 : Int32)), .unset]) rfl ?_
        show Steps p.tables e below (T5.setTop (mkF m 37 #[.val (.ref a1), .val (.ref b1), .val (.int lim), .val (.int ops), .val (.int ix), .val (.int ((XT.ushr ops ((2 : Int32) * ix)) &&& (3 : Int32))), .val (.int (1 : Int32)), .unset] [])) _
        refine XS.aloadN X5.here hx rfl (hb hby dstp_37) rfl rfl ?_
        show Steps p.tables e below (T5.setTop (mkF m 38 #[.val (.ref a1), .val (.ref b1), .val (.int lim), .val (.int ops), .val (.int ix), .val (.int ((XT.ushr ops ((2 : Int32) * ix)) &&& (3 : Int32))), .val (.int (1 : Int32)), .unset] [(.ref b1)])) _
        refine XS.iconst X5.here hx rfl (hb hby dstp_38) ?_
        show Steps p.tables e below (T5.setTop (mkF m 39 #[.val (.ref a1), .val (.ref b1), .val (.int lim), .val (.int ops), .val (.int ix), .val (.int ((XT.ushr ops ((2 : Int32) * ix)) &&& (3 : Int32))), .val (.int (1 : Int32)), .unset] [(.int (0 : Int32)), (.ref b1)])) _
        refine XS.aloadN X5.here hx rfl (hb hby dstp_39) rfl rfl ?_
        show Steps p.tables e below (T5.setTop (mkF m 40 #[.val (.ref a1), .val (.ref b1), .val (.int lim), .val (.int ops), .val (.int ix), .val (.int ((XT.ushr ops ((2 : Int32) * ix)) &&& (3 : Int32))), .val (.int (1 : Int32)), .unset] [(.ref b1), (.int (0 : Int32)), (.ref b1)])) _
        refine XS.iconst X5.here hx rfl (hb hby dstp_40) ?_
        show Steps p.tables e below (T5.setTop (mkF m 41 #[.val (.ref a1), .val (.ref b1), .val (.int lim), .val (.int ops), .val (.int ix), .val (.int ((XT.ushr ops ((2 : Int32) * ix)) &&& (3 : Int32))), .val (.int (1 : Int32)), .unset] [(.int (0 : Int32)), (.ref b1), (.int (0 : Int32)), (.ref b1)])) _
        refine X5.iaload hx (j := (0 : Int32)) (v := (.int d)) (by rw [e5]; exact Ar8.1) (State.isArrayOf_alike hZ.alike Ar8.2.1) Ar8.2.2 hin8 hat8 (g := (mkF m 41 #[.val (.ref a1), .val (.ref b1), .val (.int lim), .val (.int ops), .val (.int ix), .val (.int ((XT.ushr ops ((2 : Int32) * ix)) &&& (3 : Int32))), .val (.int (1 : Int32)), .unset] [(.int (0 : Int32)), (.ref b1), (.int (0 : Int32)), (.ref b1)])) rfl rfl (hb hby dstp_41) _ ?_
        show Steps p.tables e below (T5.setTop (mkF m 42 #[.val (.ref a1), .val (.ref b1), .val (.int lim), .val (.int ops), .val (.int ix), .val (.int ((XT.ushr ops ((2 : Int32) * ix)) &&& (3 : Int32))), .val (.int (1 : Int32)), .unset] [(.int d), (.int (0 : Int32)), (.ref b1)])) _
        refine XS.iconst X5.here hx rfl (hb hby dstp_42) ?_
        show Steps p.tables e below (T5.setTop (mkF m 43 #[.val (.ref a1), .val (.ref b1), .val (.int lim), .val (.int ops), .val (.int ix), .val (.int ((XT.ushr ops ((2 : Int32) * ix)) &&& (3 : Int32))), .val (.int (1 : Int32)), .unset] [(.int (1 : Int32)), (.int d), (.int (0 : Int32)), (.ref b1)])) _
        refine XS.iadd X5.here hx rfl (hb hby dstp_43) rfl ?_
        show Steps p.tables e below (T5.setTop (mkF m 44 #[.val (.ref a1), .val (.ref b1), .val (.int lim), .val (.int ops), .val (.int ix), .val (.int ((XT.ushr ops ((2 : Int32) * ix)) &&& (3 : Int32))), .val (.int (1 : Int32)), .unset] [(.int (d + (1 : Int32))), (.int (0 : Int32)), (.ref b1)])) _
        exact k)
      obtain ⟨cl10, Ar10, kc10, S10, M10, H10, G10⟩ := id f6_3
      have hin10 := inb_of S10 (j := (0 : Int32)) (by decide)
      obtain ⟨T10, h10, X10, e10, W10, st10⟩ := stI X5 hx hZ e5 Ar10 (j := (0 : Int32)) hin10 (g := (mkF m 44 #[.val (.ref a1), .val (.ref b1), .val (.int lim), .val (.int ops), .val (.int ix), .val (.int ((XT.ushr ops ((2 : Int32) * ix)) &&& (3 : Int32))), .val (.int (1 : Int32)), .unset] [(.int (d + (1 : Int32))), (.int (0 : Int32)), (.ref b1)])) rfl rfl (hb hby dstp_44)
      have V10 : Arv Z h10 b1 k .int 2 [(.int (d + 1)), (.int 1)] (.int 0) := Arv.set Ar10 kc10 S10 M10 H10 G10 (v := (.int (d + (1 : Int32)))) rfl W10 0 (by decide) (by simp)
      have N10 := Fr.snoc X10 N5 g_b1
      have f11_0 := f6_0.wr W10
      have f11_2 := Fd5.other W10 (Or.inl ne)
      have f11_3 := Fl5.other W10 (Or.inl ne)
      have K12 := K7.wr W10 (Or.inl (List.mem_of_getElem? (i := 1) rfl))
      have Z10 : n0 ≤ h10.size := Nat.le_trans Z5 (Keep.of_wr W10).1
      obtain ⟨cl13, Ar13, kc13, S13, M13, H13, G13⟩ := id V10
      have hin13 := inb_of S13 (j := (0 : Int32)) (by decide)
      have hat13 : cl13.slots[((0 : Int32)).toNatClampNeg]? = some (.int (d + (1 : Int32))) := H13.at hin13 rfl
      have pre14 : ∀ t, Steps p.tables e below (T10.setTop (mkF m 70 #[.val (.ref a1), .val (.ref b1), .val (.int lim), .val (.int ops), .val (.int ix), .val (.int ((XT.ushr ops ((2 : Int32) * ix)) &&& (3 : Int32))), .val (.int (1 : Int32)), .val (.int (1 : Int32))] [])) t → Steps p.tables e below (s₁.setTop (entryFrame m #[(.ref a1), (.ref b1), (.int lim), (.int ops), (.int ix)] 8)) t := fun t k => pre9 t (by
        show Steps p.tables e below (T5.setTop (mkF m 44 #[.val (.ref a1), .val (.ref b1), .val (.int lim), .val (.int ops), .val (.int ix), .val (.int ((XT.ushr ops ((2 : Int32) * ix)) &&& (3 : Int32))), .val (.int (1 : Int32)), .unset] [(.int (d + (1 : Int32))), (.int (0 : Int32)), (.ref b1)])) _
        refine st10 _ ?_
        show Steps p.tables e below (T10.setTop (mkF m 45 #[.val (.ref a1), .val (.ref b1), .val (.int lim), .val (.int ops), .val (.int ix), .val (.int ((XT.ushr ops ((2 : Int32) * ix)) &&& (3 : Int32))), .val (.int (1 : Int32)), .unset] [])) _
        refine XS.aloadN X10.here hx rfl (hb hby dstp_45) rfl rfl ?_
        show Steps p.tables e below (T10.setTop (mkF m 46 #[.val (.ref a1), .val (.ref b1), .val (.int lim), .val (.int ops), .val (.int ix), .val (.int ((XT.ushr ops ((2 : Int32) * ix)) &&& (3 : Int32))), .val (.int (1 : Int32)), .unset] [(.ref b1)])) _
        refine XS.iconst X10.here hx rfl (hb hby dstp_46) ?_
        show Steps p.tables e below (T10.setTop (mkF m 47 #[.val (.ref a1), .val (.ref b1), .val (.int lim), .val (.int ops), .val (.int ix), .val (.int ((XT.ushr ops ((2 : Int32) * ix)) &&& (3 : Int32))), .val (.int (1 : Int32)), .unset] [(.int (0 : Int32)), (.ref b1)])) _
        refine X10.iaload hx (j := (0 : Int32)) (v := (.int (d + (1 : Int32)))) (by rw [e10]; exact Ar13.1) (State.isArrayOf_alike hZ.alike Ar13.2.1) Ar13.2.2 hin13 hat13 (g := (mkF m 47 #[.val (.ref a1), .val (.ref b1), .val (.int lim), .val (.int ops), .val (.int ix), .val (.int ((XT.ushr ops ((2 : Int32) * ix)) &&& (3 : Int32))), .val (.int (1 : Int32)), .unset] [(.int (0 : Int32)), (.ref b1)])) rfl rfl (hb hby dstp_47) _ ?_
        show Steps p.tables e below (T10.setTop (mkF m 48 #[.val (.ref a1), .val (.ref b1), .val (.int lim), .val (.int ops), .val (.int ix), .val (.int ((XT.ushr ops ((2 : Int32) * ix)) &&& (3 : Int32))), .val (.int (1 : Int32)), .unset] [(.int (d + (1 : Int32)))])) _
        refine XS.iloadN X10.here hx rfl (hb hby dstp_48) rfl ?_
        show Steps p.tables e below (T10.setTop (mkF m 49 #[.val (.ref a1), .val (.ref b1), .val (.int lim), .val (.int ops), .val (.int ix), .val (.int ((XT.ushr ops ((2 : Int32) * ix)) &&& (3 : Int32))), .val (.int (1 : Int32)), .unset] [(.int lim), (.int (d + (1 : Int32)))])) _
        refine XS.icmpNo X10.here hx rfl (hb hby dstp_49) rfl (XT.ii_gt_f hd) ?_
        show Steps p.tables e below (T10.setTop (mkF m 52 #[.val (.ref a1), .val (.ref b1), .val (.int lim), .val (.int ops), .val (.int ix), .val (.int ((XT.ushr ops ((2 : Int32) * ix)) &&& (3 : Int32))), .val (.int (1 : Int32)), .unset] [])) _
        refine XS.iconst X10.here hx rfl (hb hby dstp_52) ?_
        show Steps p.tables e below (T10.setTop (mkF m 53 #[.val (.ref a1), .val (.ref b1), .val (.int lim), .val (.int ops), .val (.int ix), .val (.int ((XT.ushr ops ((2 : Int32) * ix)) &&& (3 : Int32))), .val (.int (1 : Int32)), .unset] [(.int (1 : Int32))])) _
        refine XS.goto X10.here hx rfl (pc0 := 53) (pc' := 57) rfl (hb hby dstp_53) (by decide) (by decide) ?_
        show Steps p.tables e below (T10.setTop (mkF m 57 #[.val (.ref a1), .val (.ref b1), .val (.int lim), .val (.int ops), .val (.int ix), .val (.int ((XT.ushr ops ((2 : Int32) * ix)) &&& (3 : Int32))), .val (.int (1 : Int32)), .unset] [(.int (1 : Int32))])) _
        refine XS.istore X10.here hx rfl (hb hby dstp_57) rfl (l' := #[.val (.ref a1), .val (.ref b1), .val (.int lim), .val (.int ops), .val (.int ix), .val (.int ((XT.ushr ops ((2 : Int32) * ix)) &&& (3 : Int32))), .val (.int (1 : Int32)), .val (.int (1 : Int32))]) rfl ?_
        show Steps p.tables e below (T10.setTop (mkF m 59 #[.val (.ref a1), .val (.ref b1), .val (.int lim), .val (.int ops), .val (.int ix), .val (.int ((XT.ushr ops ((2 : Int32) * ix)) &&& (3 : Int32))), .val (.int (1 : Int32)), .val (.int (1 : Int32))] [])) _
        refine XS.iload X10.here hx rfl (hb hby dstp_59) rfl ?_
        show Steps p.tables e below (T10.setTop (mkF m 61 #[.val (.ref a1), .val (.ref b1), .val (.int lim), .val (.int ops), .val (.int ix), .val (.int ((XT.ushr ops ((2 : Int32) * ix)) &&& (3 : Int32))), .val (.int (1 : Int32)), .val (.int (1 : Int32))] [(.int (1 : Int32))])) _
        refine XS.iload X10.here hx rfl (hb hby dstp_61) rfl ?_
        show Steps p.tables e below (T10.setTop (mkF m 63 #[.val (.ref a1), .val (.ref b1), .val (.int lim), .val (.int ops), .val (.int ix), .val (.int ((XT.ushr ops ((2 : Int32) * ix)) &&& (3 : Int32))), .val (.int (1 : Int32)), .val (.int (1 : Int32))] [(.int (1 : Int32)), (.int (1 : Int32))])) _
        refine XS.icmpYes X10.here hx rfl (pc0 := 63) (pc' := 70) rfl (hb hby dstp_63) rfl (XT.ii_eq_t rfl) (by decide) (by decide) ?_
        show Steps p.tables e below (T10.setTop (mkF m 70 #[.val (.ref a1), .val (.ref b1), .val (.int lim), .val (.int ops), .val (.int ix), .val (.int ((XT.ushr ops ((2 : Int32) * ix)) &&& (3 : Int32))), .val (.int (1 : Int32)), .val (.int (1 : Int32))] [])) _
        exact k)
      obtain ⟨fs, hr, hrun, hended, hW, hsame⟩ := X10.leave (v := none) (fun _ => rfl)
      refine ⟨_, _, pre14 _ ?_, hrun, hended, _, _, rfl, ?_, ⟨_, rfl⟩, hW, hsame.mono (by decide) (by decide)⟩
      · exact X10.returnOut hx Bd.returns (hb hby dstp_70) hr
      · show Q_stp Z a1 b1 lim ops ix d k h0 n0 _ T10.heap _
        rw [e10]
        exact ⟨rfl, N10, K12, (d + 1), f11_2, f11_3, V10⟩
theorem own_lim1 (p : Int32) : ¬ (XT.ushr p (1 : Int32) &&& (7 : Int32)) < 0 ∧ ¬ (1000 : Int32) < (XT.ushr p (1 : Int32) &&& (7 : Int32)) := by
  have h := c_mask (XT.ushr p 1) 7 3 (by decide) (by decide)
  rw [Int32.lt_iff_toInt_lt, Int32.lt_iff_toInt_lt, h]
  have h3 : (0 : Int32).toInt = 0 := by decide
  have h4 : (1000 : Int32).toInt = 1000 := by decide
  rw [h3, h4]; omega
theorem own_lim2 (p : Int32) : ¬ ((p &&& (2147483647 : Int32)) % (1001 : Int32)) < 0 ∧ ¬ (1000 : Int32) < ((p &&& (2147483647 : Int32)) % (1001 : Int32)) := by
  have h1 := c_mask p 2147483647 31 (by decide) (by decide)
  have h2 := (c_irem (p &&& 2147483647) 1001 1001 (by decide)).1
  rw [Int32.lt_iff_toInt_lt, Int32.lt_iff_toInt_lt]
  have h3 : (0 : Int32).toInt = 0 := by decide
  have h4 : (1000 : Int32).toInt = 1000 := by decide
  rw [h3, h4]
  have h5 : 0 ≤ (p &&& 2147483647).toInt := by rw [h1]; omega
  have h6 := h2 h5
  omega
theorem pd__I_V : parseMethodDescriptor "(I)V" = some ⟨[.int], none⟩ := by decide +kernel
theorem pd__Lcom_example_samewire_samewire_Nesting__IIII_V : parseMethodDescriptor "(Lcom/example/samewire/samewire/Nesting;[IIII)V" = some ⟨[(.object "com/example/samewire/samewire/Nesting"), (.array .int), .int, .int, .int], none⟩ := by decide +kernel
theorem pn_0 : plainName "com/example/samewire/samewire/NestingOpenPinLaw" = true := by first | (simp [plainName, overriddenIn]; done) | decide +kernel
theorem ef_0 (m : MethodId) (p1 : Int32) (p2 : Int32) : entryFrame m #[(.int p1), (.int p2)] maxLocals = (mkF m 0 #[.val (.int p1), .val (.int p2), .unset, .unset, .unset] []) := by first | (simp [entryFrame, mkF, argsToLocals, Value.category, maxLocals]; done) | rfl
def Q_0 (Z : State) (p1 p2 : Int32) (h0 : Heap) (n0 : Nat) (v : Option Value) (h : Heap) (L : List Loc) : Prop := v = some (.int 1) ∧ Fr n0 L
set_option maxRecDepth 65536 in
set_option maxHeartbeats 40000000 in
theorem rm_0 (l : Launch) (Z : State) (a0 : Array Value) (hw : ∀ d ∈ tables_1, d.before a0 Z = true) (ws : List Jvm.Cond) (p1 p2 : Int32) (h0 : Heap) (n0 : Nat) (Z0 : n0 ≤ h0.size)  :
    MetFree l x (head1 (Jvm.Cond.code x code maxLocals ret :: ws) room_1) (fun a U => a = #[(.int p1), (.int p2)] ∧ Z.Warmed39 U.vm ∧ U.heap = h0) (fun _ _ _ _ _ => True) (fun _ U o U' => ∃ v L, o = .returned v ∧ Q_0 Z p1 p2 h0 n0 v U'.heap L ∧ FrameEnd U o U' L room_1.cells room_1.slots) := by
  refine MetFree.of_bodySF (plainFor_of_name pn_0) hisR ?_
  intro p e s m args below meth c s₁ Bd hml0 hP hK
  obtain ⟨rfl, hZ, hh⟩ := hP
  have hx := Bd.exec
  have hby := Bd.bytes
  have hml : c.maxLocals = 5 := hml0
  have hown : s.vm.findClass "com/example/samewire/samewire/NestingOpenPinLaw" = some m.cls := findClass_of_methodNamed Bd.named
  have hnm := (name_of_methodNamed Bd.named Bd.method).1
  have X0 : Stand p l e room_1 s m #[(.int p1), (.int p2)] below meth c s₁ [] 0 0 := Stand.of_body Bd
  have e0 : s₁.heap = h0 := by rw [← hh, Bd.state]; rfl
  have N0 := Fr.nil n0
  have pre0 : ∀ t, Steps p.tables e below (s₁.setTop (mkF m 0 #[.val (.int p1), .val (.int p2), .unset, .unset, .unset] [])) t → Steps p.tables e below (s₁.setTop (entryFrame m #[(.int p1), (.int p2)] maxLocals)) t := fun t k => castTop (ef_0 m p1 p2) k
  have pre2 : ∀ t, Steps p.tables e below (s₁.setTop (mkF m 3 #[.val (.int p1), .val (.int p2), .unset, .unset, .unset] [(.int (p1 &&& (1 : Int32)))])) t → Steps p.tables e below (s₁.setTop (entryFrame m #[(.int p1), (.int p2)] maxLocals)) t := fun t k => pre0 t (by
    show Steps p.tables e below (s₁.setTop (mkF m 0 #[.val (.int p1), .val (.int p2), .unset, .unset, .unset] [])) _
    refine XS.iloadN X0.here hx rfl (hb hby at_0) rfl ?_
    show Steps p.tables e below (s₁.setTop (mkF m 1 #[.val (.int p1), .val (.int p2), .unset, .unset, .unset] [(.int p1)])) _
    refine XS.iconst X0.here hx rfl (hb hby at_1) ?_
    show Steps p.tables e below (s₁.setTop (mkF m 2 #[.val (.int p1), .val (.int p2), .unset, .unset, .unset] [(.int (1 : Int32)), (.int p1)])) _
    refine XS.iand X0.here hx rfl (hb hby at_2) rfl ?_
    show Steps p.tables e below (s₁.setTop (mkF m 3 #[.val (.int p1), .val (.int p2), .unset, .unset, .unset] [(.int (p1 &&& (1 : Int32)))])) _
    exact k)
  obtain ⟨lim, hl0, hl1, preL⟩ : ∃ lim : Int32, ¬ lim < 0 ∧ ¬ (1000 : Int32) < lim ∧ ∀ t, Steps p.tables e below (s₁.setTop (mkF m 23 #[.val (.int p1), .val (.int p2), .unset, .unset, .unset] [(.int lim)])) t → Steps p.tables e below (s₁.setTop (entryFrame m #[(.int p1), (.int p2)] maxLocals)) t := by
    by_cases hc : (p1 &&& (1 : Int32)) = 0
    · skip
      have pre3 : ∀ t, Steps p.tables e below (s₁.setTop (mkF m 23 #[.val (.int p1), .val (.int p2), .unset, .unset, .unset] [(.int ((p1 &&& (2147483647 : Int32)) % (1001 : Int32)))])) t → Steps p.tables e below (s₁.setTop (entryFrame m #[(.int p1), (.int p2)] maxLocals)) t := fun t k => pre2 t (by
        show Steps p.tables e below (s₁.setTop (mkF m 3 #[.val (.int p1), .val (.int p2), .unset, .unset, .unset] [(.int (p1 &&& (1 : Int32)))])) _
        refine XS.ifYes X0.here hx rfl (pc0 := 3) (pc' := 15) rfl (hb hby at_3) rfl (XT.i0_eq_t hc) (by decide) (by decide) ?_
        show Steps p.tables e below (s₁.setTop (mkF m 15 #[.val (.int p1), .val (.int p2), .unset, .unset, .unset] [])) _
        refine XS.iloadN X0.here hx rfl (hb hby at_15) rfl ?_
        show Steps p.tables e below (s₁.setTop (mkF m 16 #[.val (.int p1), .val (.int p2), .unset, .unset, .unset] [(.int p1)])) _
        refine X0.ldcI hx hown (mvT hZ (hw _ (List.mem_of_getElem? (i := 0) rfl))) rfl (hb hby at_16) ?_
        show Steps p.tables e below (s₁.setTop (mkF m 18 #[.val (.int p1), .val (.int p2), .unset, .unset, .unset] [(.int (2147483647 : Int32)), (.int p1)])) _
        refine XS.iand X0.here hx rfl (hb hby at_18) rfl ?_
        show Steps p.tables e below (s₁.setTop (mkF m 19 #[.val (.int p1), .val (.int p2), .unset, .unset, .unset] [(.int (p1 &&& (2147483647 : Int32)))])) _
        refine XS.sipush X0.here hx rfl (hb hby at_19) ?_
        show Steps p.tables e below (s₁.setTop (mkF m 22 #[.val (.int p1), .val (.int p2), .unset, .unset, .unset] [(.int (1001 : Int32)), (.int (p1 &&& (2147483647 : Int32)))])) _
        refine XS.irem X0.here hx rfl (hb hby at_22) rfl (by decide) ?_
        show Steps p.tables e below (s₁.setTop (mkF m 23 #[.val (.int p1), .val (.int p2), .unset, .unset, .unset] [(.int ((p1 &&& (2147483647 : Int32)) - ((p1 &&& (2147483647 : Int32)) / (1001 : Int32)) * (1001 : Int32)))])) _
        rw [own_irem]
        show Steps p.tables e below (s₁.setTop (mkF m 23 #[.val (.int p1), .val (.int p2), .unset, .unset, .unset] [(.int ((p1 &&& (2147483647 : Int32)) % (1001 : Int32)))])) _
        exact k)
      exact ⟨_, (own_lim2 p1).1, (own_lim2 p1).2, pre3⟩
    · skip
      have pre3 : ∀ t, Steps p.tables e below (s₁.setTop (mkF m 23 #[.val (.int p1), .val (.int p2), .unset, .unset, .unset] [(.int ((XT.ushr p1 (1 : Int32)) &&& (7 : Int32)))])) t → Steps p.tables e below (s₁.setTop (entryFrame m #[(.int p1), (.int p2)] maxLocals)) t := fun t k => pre2 t (by
        show Steps p.tables e below (s₁.setTop (mkF m 3 #[.val (.int p1), .val (.int p2), .unset, .unset, .unset] [(.int (p1 &&& (1 : Int32)))])) _
        refine XS.ifNo X0.here hx rfl (hb hby at_3) rfl (XT.i0_eq_f hc) ?_
        show Steps p.tables e below (s₁.setTop (mkF m 6 #[.val (.int p1), .val (.int p2), .unset, .unset, .unset] [])) _
        refine XS.iloadN X0.here hx rfl (hb hby at_6) rfl ?_
        show Steps p.tables e below (s₁.setTop (mkF m 7 #[.val (.int p1), .val (.int p2), .unset, .unset, .unset] [(.int p1)])) _
        refine XS.iconst X0.here hx rfl (hb hby at_7) ?_
        show Steps p.tables e below (s₁.setTop (mkF m 8 #[.val (.int p1), .val (.int p2), .unset, .unset, .unset] [(.int (1 : Int32)), (.int p1)])) _
        refine XT.iushr X0.here hx rfl (hb hby at_8) rfl ?_
        show Steps p.tables e below (s₁.setTop (mkF m 9 #[.val (.int p1), .val (.int p2), .unset, .unset, .unset] [(.int (XT.ushr p1 (1 : Int32)))])) _
        refine XS.bipush X0.here hx rfl (hb hby at_9) ?_
        show Steps p.tables e below (s₁.setTop (mkF m 11 #[.val (.int p1), .val (.int p2), .unset, .unset, .unset] [(.int (7 : Int32)), (.int (XT.ushr p1 (1 : Int32)))])) _
        refine XS.iand X0.here hx rfl (hb hby at_11) rfl ?_
        show Steps p.tables e below (s₁.setTop (mkF m 12 #[.val (.int p1), .val (.int p2), .unset, .unset, .unset] [(.int ((XT.ushr p1 (1 : Int32)) &&& (7 : Int32)))])) _
        refine XS.goto X0.here hx rfl (pc0 := 12) (pc' := 23) rfl (hb hby at_12) (by decide) (by decide) ?_
        show Steps p.tables e below (s₁.setTop (mkF m 23 #[.val (.int p1), .val (.int p2), .unset, .unset, .unset] [(.int ((XT.ushr p1 (1 : Int32)) &&& (7 : Int32)))])) _
        exact k)
      exact ⟨_, (own_lim1 p1).1, (own_lim1 p1).2, pre3⟩
  have pre3 : ∀ t, Steps p.tables e below (s₁.setTop (mkF m 24 #[.val (.int p1), .val (.int p2), .val (.int lim), .unset, .unset] [])) t → Steps p.tables e below (s₁.setTop (entryFrame m #[(.int p1), (.int p2)] maxLocals)) t := fun t k => preL t (by
    show Steps p.tables e below (s₁.setTop (mkF m 23 #[.val (.int p1), .val (.int p2), .unset, .unset, .unset] [(.int lim)])) _
    refine XS.istoreN X0.here hx rfl (hb hby at_23) rfl (l' := #[.val (.int p1), .val (.int p2), .val (.int lim), .unset, .unset]) rfl ?_
    show Steps p.tables e below (s₁.setTop (mkF m 24 #[.val (.int p1), .val (.int p2), .val (.int lim), .unset, .unset] [])) _
    exact k)
  obtain ⟨T4, h4, X4, e4, E4, A4, D4, -, st4⟩ := newO X0 hx hZ hown (hw _ (List.mem_of_getElem? (i := 1) rfl)) (hw _ (List.mem_of_getElem? (i := 2) rfl)) (hw _ (List.mem_of_getElem? (i := 3) rfl)) e0 (g := (mkF m 24 #[.val (.int p1), .val (.int p2), .val (.int lim), .unset, .unset] [])) rfl (hb hby at_24) (by decide) (by decide)
  obtain ⟨b4, g4⟩ : ∃ z, z = h0.size := ⟨_, rfl⟩
  rw [← g4] at A4 D4 st4
  have g_b4 : n0 ≤ b4 := Nat.le_trans Z0 (Nat.le_of_eq g4.symm)
  have Z4 : n0 ≤ h4.size := Nat.le_trans Z0 E4.1
  have F4_limit : Fld Z h4 b4 "com/example/samewire/samewire/Nesting" "limit" "I" (.int (0 : Int32)) := D4 (Or.inr (hw _ (List.mem_of_getElem? (i := 11) rfl))) (ty := .int) (by decide)
  have F4_depth : Fld Z h4 b4 "com/example/samewire/samewire/Nesting" "depth" "I" (.int (0 : Int32)) := D4 (Or.inl (hw _ (List.mem_of_getElem? (i := 23) rfl))) (ty := .int) (by decide)
  have pre6 : ∀ t, Steps p.tables e below (T4.setTop (mkF m 29 #[.val (.int p1), .val (.int p2), .val (.int lim), .unset, .unset] [(.int lim), (.ref b4), (.ref b4)])) t → Steps p.tables e below (s₁.setTop (entryFrame m #[(.int p1), (.int p2)] maxLocals)) t := fun t k => pre3 t (by
    show Steps p.tables e below (s₁.setTop (mkF m 24 #[.val (.int p1), .val (.int p2), .val (.int lim), .unset, .unset] [])) _
    refine st4 _ ?_
    show Steps p.tables e below (T4.setTop (mkF m 27 #[.val (.int p1), .val (.int p2), .val (.int lim), .unset, .unset] [(.ref b4)])) _
    refine XS.dup X4.here hx rfl (hb hby at_27) rfl rfl ?_
    show Steps p.tables e below (T4.setTop (mkF m 28 #[.val (.int p1), .val (.int p2), .val (.int lim), .unset, .unset] [(.ref b4), (.ref b4)])) _
    refine XS.iloadN X4.here hx rfl (hb hby at_28) rfl ?_
    show Steps p.tables e below (T4.setTop (mkF m 29 #[.val (.int p1), .val (.int p2), .val (.int lim), .unset, .unset] [(.int lim), (.ref b4), (.ref b4)])) _
    exact k)
  obtain ⟨_, _, ⟨T7, L7, kk7, nn7⟩, -, X7, ⟨Lc7, hQ7, l7, y7, z7⟩, st7⟩ := X4.specialBack hx (y := (⟨"com/example/samewire/samewire/Nesting", "<init>", "(I)V"⟩ : MethodName)) rfl hown (mvT hZ (hw _ (List.mem_of_getElem? (i := 4) rfl))) (mvT hZ (hw _ (List.mem_of_getElem? (i := 5) rfl))) (mvT hZ (hw _ (List.mem_of_getElem? (i := 6) rfl))) (by decide) (backOf (W := 1) (rm_ini l Z a0 hw [] b4 lim 0 0 h4 n0 Z4 A4 F4_depth F4_limit g_b4 hl0 hl1) hZ (hw _ (List.mem_of_getElem? (i := 6) rfl)) (hw _ (List.mem_of_getElem? (i := 3) rfl)) (by decide) (by decide)) (g := (mkF m 29 #[.val (.int p1), .val (.int p2), .val (.int lim), .unset, .unset] [(.int lim), (.ref b4), (.ref b4)])) rfl (by rw [hml]; rfl) (Steps.refl _) (a := b4) (argsL := [(.int lim)]) (rest := [(.ref b4)]) (lenOf pd__I_V rfl) rfl (by show 2 * 0 + _ ≤ _; exact Nat.le_of_eq rfl) (hb hby at_29) (fun _ _ => ⟨rfl, e4, (by decide : 1 + 0 ≤ _), (by decide : 2 + 0 ≤ _)⟩)
  dsimp only [Pt.U, Pt.locs, Pt.cells, Pt.slots] at X7 l7 y7 z7 st7 hQ7
  subst l7 y7 z7
  obtain ⟨rfl, N7q, Kc7, Fd7, Fl7⟩ := hQ7
  have N7 := Fr.app N0 N7q
  have f8_0 := A4.keep Kc7
  have Z7 : n0 ≤ T7.heap.size := Nat.le_trans Z4 Kc7.1
  have e7 : T7.heap = T7.heap := rfl
  have pre9 : ∀ t, Steps p.tables e below (T7.setTop (mkF m 34 #[.val (.int p1), .val (.int p2), .val (.int lim), .val (.ref b4), .unset] [(.int (2 : Int32))])) t → Steps p.tables e below (s₁.setTop (entryFrame m #[(.int p1), (.int p2)] maxLocals)) t := fun t k => pre6 t (by
    show Steps p.tables e below (T4.setTop (mkF m 29 #[.val (.int p1), .val (.int p2), .val (.int lim), .unset, .unset] [(.int lim), (.ref b4), (.ref b4)])) _
    refine st7.trans ?_
    show Steps p.tables e below (T7.setTop (mkF m 32 #[.val (.int p1), .val (.int p2), .val (.int lim), .unset, .unset] [(.ref b4)])) _
    refine XS.astoreN X7.here hx rfl (hb hby at_32) rfl rfl (l' := #[.val (.int p1), .val (.int p2), .val (.int lim), .val (.ref b4), .unset]) rfl ?_
    show Steps p.tables e below (T7.setTop (mkF m 33 #[.val (.int p1), .val (.int p2), .val (.int lim), .val (.ref b4), .unset] [])) _
    refine XS.iconst X7.here hx rfl (hb hby at_33) ?_
    show Steps p.tables e below (T7.setTop (mkF m 34 #[.val (.int p1), .val (.int p2), .val (.int lim), .val (.ref b4), .unset] [(.int (2 : Int32))])) _
    exact k)
  obtain ⟨T10, h10, k10, X10, e10, E10, A10, st10⟩ := newP X7 hx hZ (hw _ (List.mem_of_getElem? (i := 12) rfl)) e7 (g := (mkF m 34 #[.val (.int p1), .val (.int p2), .val (.int lim), .val (.ref b4), .unset] [(.int (2 : Int32))])) rfl (hb hby at_34) rfl (by decide) (cap := 2) (by decide) (by decide) (by decide) (by decide)
  obtain ⟨b10, g10⟩ : ∃ z, z = T7.heap.size := ⟨_, rfl⟩
  rw [← g10] at A10 st10
  have ne_b4_b10 : b4 ≠ b10 := Nat.ne_of_lt (Nat.lt_of_lt_of_eq f8_0.lt g10.symm)
  have g_b10 : n0 ≤ b10 := Nat.le_trans Z7 (Nat.le_of_eq g10.symm)
  have Z10 : n0 ≤ h10.size := Nat.le_trans Z7 E10.1
  have f11_0 := f8_0.ext E10
  have f11_1 := Fd7.ext E10
  have f11_2 := Fl7.ext E10
  have V10 := Arv.new A10 (by decide)
  have V12 : Arv Z h10 b10 k10 .int (2 : Int32) [(.int (0 : Int32)), (.int (0 : Int32))] (.int (0 : Int32)) := V10.pad (pad_rep [] (.int (0 : Int32)) 2)
  have pre13 : ∀ t, Steps p.tables e below (T10.setTop (mkF m 39 #[.val (.int p1), .val (.int p2), .val (.int lim), .val (.ref b4), .unset] [(.int (0 : Int32)), (.int (0 : Int32)), (.ref b10), (.ref b10)])) t → Steps p.tables e below (s₁.setTop (entryFrame m #[(.int p1), (.int p2)] maxLocals)) t := fun t k => pre9 t (by
    show Steps p.tables e below (T7.setTop (mkF m 34 #[.val (.int p1), .val (.int p2), .val (.int lim), .val (.ref b4), .unset] [(.int (2 : Int32))])) _
    refine st10 _ ?_
    show Steps p.tables e below (T10.setTop (mkF m 36 #[.val (.int p1), .val (.int p2), .val (.int lim), .val (.ref b4), .unset] [(.ref b10)])) _
    refine XS.dup X10.here hx rfl (hb hby at_36) rfl rfl ?_
    show Steps p.tables e below (T10.setTop (mkF m 37 #[.val (.int p1), .val (.int p2), .val (.int lim), .val (.ref b4), .unset] [(.ref b10), (.ref b10)])) _
    refine XS.iconst X10.here hx rfl (hb hby at_37) ?_
    show Steps p.tables e below (T10.setTop (mkF m 38 #[.val (.int p1), .val (.int p2), .val (.int lim), .val (.ref b4), .unset] [(.int (0 : Int32)), (.ref b10), (.ref b10)])) _
    refine XS.iconst X10.here hx rfl (hb hby at_38) ?_
    show Steps p.tables e below (T10.setTop (mkF m 39 #[.val (.int p1), .val (.int p2), .val (.int lim), .val (.ref b4), .unset] [(.int (0 : Int32)), (.int (0 : Int32)), (.ref b10), (.ref b10)])) _
    exact k)
  obtain ⟨cl14, Ar14, kc14, S14, M14, H14, G14⟩ := id V12
  have hin14 := inb_of S14 (j := (0 : Int32)) (by decide)
  obtain ⟨T14, h14, X14, e14, W14, st14⟩ := stI X10 hx hZ e10 Ar14 (j := (0 : Int32)) hin14 (g := (mkF m 39 #[.val (.int p1), .val (.int p2), .val (.int lim), .val (.ref b4), .unset] [(.int (0 : Int32)), (.int (0 : Int32)), (.ref b10), (.ref b10)])) rfl rfl (hb hby at_39)
  have V14 : Arv Z h14 b10 k10 .int (2 : Int32) [(.int 0), (.int 0)] (.int (0 : Int32)) := Arv.set Ar14 kc14 S14 M14 H14 G14 (v := (.int (0 : Int32))) rfl W14 0 (by decide) (by simp)
  have N14 := Fr.snoc X14 N7 g_b10
  have f15_0 := f11_0.wr W14
  have f15_1 := f11_1.other W14 (Or.inl ne_b4_b10)
  have f15_2 := f11_2.other W14 (Or.inl ne_b4_b10)
  have Z14 : n0 ≤ h14.size := Nat.le_trans Z10 (Keep.of_wr W14).1
  have pre16 : ∀ t, Steps p.tables e below (T14.setTop (mkF m 43 #[.val (.int p1), .val (.int p2), .val (.int lim), .val (.ref b4), .unset] [(.int (1 : Int32)), (.int (1 : Int32)), (.ref b10), (.ref b10)])) t → Steps p.tables e below (s₁.setTop (entryFrame m #[(.int p1), (.int p2)] maxLocals)) t := fun t k => pre13 t (by
    show Steps p.tables e below (T10.setTop (mkF m 39 #[.val (.int p1), .val (.int p2), .val (.int lim), .val (.ref b4), .unset] [(.int (0 : Int32)), (.int (0 : Int32)), (.ref b10), (.ref b10)])) _
    refine st14 _ ?_
    show Steps p.tables e below (T14.setTop (mkF m 40 #[.val (.int p1), .val (.int p2), .val (.int lim), .val (.ref b4), .unset] [(.ref b10)])) _
    refine XS.dup X14.here hx rfl (hb hby at_40) rfl rfl ?_
    show Steps p.tables e below (T14.setTop (mkF m 41 #[.val (.int p1), .val (.int p2), .val (.int lim), .val (.ref b4), .unset] [(.ref b10), (.ref b10)])) _
    refine XS.iconst X14.here hx rfl (hb hby at_41) ?_
    show Steps p.tables e below (T14.setTop (mkF m 42 #[.val (.int p1), .val (.int p2), .val (.int lim), .val (.ref b4), .unset] [(.int (1 : Int32)), (.ref b10), (.ref b10)])) _
    refine XS.iconst X14.here hx rfl (hb hby at_42) ?_
    show Steps p.tables e below (T14.setTop (mkF m 43 #[.val (.int p1), .val (.int p2), .val (.int lim), .val (.ref b4), .unset] [(.int (1 : Int32)), (.int (1 : Int32)), (.ref b10), (.ref b10)])) _
    exact k)
  obtain ⟨cl17, Ar17, kc17, S17, M17, H17, G17⟩ := id V14
  have hin17 := inb_of S17 (j := (1 : Int32)) (by decide)
  obtain ⟨T17, h17, X17, e17, W17, st17⟩ := stI X14 hx hZ e14 Ar17 (j := (1 : Int32)) hin17 (g := (mkF m 43 #[.val (.int p1), .val (.int p2), .val (.int lim), .val (.ref b4), .unset] [(.int (1 : Int32)), (.int (1 : Int32)), (.ref b10), (.ref b10)])) rfl rfl (hb hby at_43)
  have V17 : Arv Z h17 b10 k10 .int (2 : Int32) [(.int 0), (.int 1)] (.int (0 : Int32)) := Arv.set Ar17 kc17 S17 M17 H17 G17 (v := (.int (1 : Int32))) rfl W17 1 (by decide) (by simp)
  have N17 := Fr.snoc X17 N14 g_b10
  have f18_0 := f15_0.wr W17
  have f18_1 := f15_1.other W17 (Or.inl ne_b4_b10)
  have f18_2 := f15_2.other W17 (Or.inl ne_b4_b10)
  have Z17 : n0 ≤ h17.size := Nat.le_trans Z14 (Keep.of_wr W17).1
  have pre19 : ∀ t, Steps p.tables e below (T17.setTop (mkF m 52 #[.val (.int p1), .val (.int p2), .val (.int lim), .val (.ref b4), .val (.ref b10)] [(.int (0 : Int32)), (.int p2), (.int lim), (.ref b10), (.ref b4)])) t → Steps p.tables e below (s₁.setTop (entryFrame m #[(.int p1), (.int p2)] maxLocals)) t := fun t k => pre16 t (by
    show Steps p.tables e below (T14.setTop (mkF m 43 #[.val (.int p1), .val (.int p2), .val (.int lim), .val (.ref b4), .unset] [(.int (1 : Int32)), (.int (1 : Int32)), (.ref b10), (.ref b10)])) _
    refine st17 _ ?_
    show Steps p.tables e below (T17.setTop (mkF m 44 #[.val (.int p1), .val (.int p2), .val (.int lim), .val (.ref b4), .unset] [(.ref b10)])) _
    refine XS.astore X17.here hx rfl (hb hby at_44) rfl rfl (l' := #[.val (.int p1), .val (.int p2), .val (.int lim), .val (.ref b4), .val (.ref b10)]) rfl ?_
    show Steps p.tables e below (T17.setTop (mkF m 46 #[.val (.int p1), .val (.int p2), .val (.int lim), .val (.ref b4), .val (.ref b10)] [])) _
    refine XS.aloadN X17.here hx rfl (hb hby at_46) rfl rfl ?_
    show Steps p.tables e below (T17.setTop (mkF m 47 #[.val (.int p1), .val (.int p2), .val (.int lim), .val (.ref b4), .val (.ref b10)] [(.ref b4)])) _
    refine XS.aload X17.here hx rfl (hb hby at_47) rfl rfl ?_
    show Steps p.tables e below (T17.setTop (mkF m 49 #[.val (.int p1), .val (.int p2), .val (.int lim), .val (.ref b4), .val (.ref b10)] [(.ref b10), (.ref b4)])) _
    refine XS.iloadN X17.here hx rfl (hb hby at_49) rfl ?_
    show Steps p.tables e below (T17.setTop (mkF m 50 #[.val (.int p1), .val (.int p2), .val (.int lim), .val (.ref b4), .val (.ref b10)] [(.int lim), (.ref b10), (.ref b4)])) _
    refine XS.iloadN X17.here hx rfl (hb hby at_50) rfl ?_
    show Steps p.tables e below (T17.setTop (mkF m 51 #[.val (.int p1), .val (.int p2), .val (.int lim), .val (.ref b4), .val (.ref b10)] [(.int p2), (.int lim), (.ref b10), (.ref b4)])) _
    refine XS.iconst X17.here hx rfl (hb hby at_51) ?_
    show Steps p.tables e below (T17.setTop (mkF m 52 #[.val (.int p1), .val (.int p2), .val (.int lim), .val (.ref b4), .val (.ref b10)] [(.int (0 : Int32)), (.int p2), (.int lim), (.ref b10), (.ref b4)])) _
    exact k)
  obtain ⟨_, _, ⟨T20, L20, kk20, nn20⟩, -, X20, ⟨Lc20, hQ20, l20, y20, z20⟩, st20⟩ := Jvm.LawKit.callS X17 hx (y := (⟨"com/example/samewire/samewire/NestingOpenPinLaw", "step", "(Lcom/example/samewire/samewire/Nesting;[IIII)V"⟩ : MethodName)) hown (mvT hZ (hw _ (List.mem_of_getElem? (i := 13) rfl))) (mvT hZ (hw _ (List.mem_of_getElem? (i := 14) rfl))) (mvT hZ (hw _ (List.mem_of_getElem? (i := 15) rfl))) (mvT hZ (hw _ (List.mem_of_getElem? (i := 16) rfl))) (by decide) (backOf (W := 0) (rm_stp l Z a0 hw [] b4 b10 lim p2 (0 : Int32) (0 : Int32) k10 h17 n0 Z17 f18_0 f18_1 f18_2 V17 ne_b4_b10 g_b4 g_b10) hZ (hw _ (List.mem_of_getElem? (i := 16) rfl)) (hw _ (List.mem_of_getElem? (i := 15) rfl)) (by decide) (by decide)) (g := (mkF m 52 #[.val (.int p1), .val (.int p2), .val (.int lim), .val (.ref b4), .val (.ref b10)] [(.int (0 : Int32)), (.int p2), (.int lim), (.ref b10), (.ref b4)])) rfl (by rw [hml]; rfl) (argsL := [(.ref b4), (.ref b10), (.int lim), (.int p2), (.int (0 : Int32))]) (rest := []) (lenOf pd__Lcom_example_samewire_samewire_Nesting__IIII_V rfl) rfl (by show 2 * 0 + _ ≤ _; exact Nat.le_of_eq rfl) (hb hby at_52) (fun _ _ => ⟨rfl, e17, (by decide : 2 + 0 ≤ _), (by decide : 4 + 0 ≤ _)⟩)
  dsimp only [Pt.U, Pt.locs, Pt.cells, Pt.slots] at X20 l20 y20 z20 st20 hQ20
  subst l20 y20 z20
  obtain ⟨rfl, N20q, Kc20, dn20, Fd20, Fl20, V20⟩ := hQ20
  have N20 := Fr.app N17 N20q
  have f21_0 := f18_0.keep Kc20
  have Z20 : n0 ≤ T20.heap.size := Nat.le_trans Z17 Kc20.1
  have e20 : T20.heap = T20.heap := rfl
  have pre22 : ∀ t, Steps p.tables e below (T20.setTop (mkF m 61 #[.val (.int p1), .val (.int p2), .val (.int lim), .val (.ref b4), .val (.ref b10)] [(.int (1 : Int32)), (.int p2), (.int lim), (.ref b10), (.ref b4)])) t → Steps p.tables e below (s₁.setTop (entryFrame m #[(.int p1), (.int p2)] maxLocals)) t := fun t k => pre19 t (by
    show Steps p.tables e below (T17.setTop (mkF m 52 #[.val (.int p1), .val (.int p2), .val (.int lim), .val (.ref b4), .val (.ref b10)] [(.int (0 : Int32)), (.int p2), (.int lim), (.ref b10), (.ref b4)])) _
    refine st20 _ ?_
    show Steps p.tables e below (T20.setTop (mkF m 55 #[.val (.int p1), .val (.int p2), .val (.int lim), .val (.ref b4), .val (.ref b10)] [])) _
    refine XS.aloadN X20.here hx rfl (hb hby at_55) rfl rfl ?_
    show Steps p.tables e below (T20.setTop (mkF m 56 #[.val (.int p1), .val (.int p2), .val (.int lim), .val (.ref b4), .val (.ref b10)] [(.ref b4)])) _
    refine XS.aload X20.here hx rfl (hb hby at_56) rfl rfl ?_
    show Steps p.tables e below (T20.setTop (mkF m 58 #[.val (.int p1), .val (.int p2), .val (.int lim), .val (.ref b4), .val (.ref b10)] [(.ref b10), (.ref b4)])) _
    refine XS.iloadN X20.here hx rfl (hb hby at_58) rfl ?_
    show Steps p.tables e below (T20.setTop (mkF m 59 #[.val (.int p1), .val (.int p2), .val (.int lim), .val (.ref b4), .val (.ref b10)] [(.int lim), (.ref b10), (.ref b4)])) _
    refine XS.iloadN X20.here hx rfl (hb hby at_59) rfl ?_
    show Steps p.tables e below (T20.setTop (mkF m 60 #[.val (.int p1), .val (.int p2), .val (.int lim), .val (.ref b4), .val (.ref b10)] [(.int p2), (.int lim), (.ref b10), (.ref b4)])) _
    refine XS.iconst X20.here hx rfl (hb hby at_60) ?_
    show Steps p.tables e below (T20.setTop (mkF m 61 #[.val (.int p1), .val (.int p2), .val (.int lim), .val (.ref b4), .val (.ref b10)] [(.int (1 : Int32)), (.int p2), (.int lim), (.ref b10), (.ref b4)])) _
    exact k)
  obtain ⟨_, _, ⟨T23, L23, kk23, nn23⟩, -, X23, ⟨Lc23, hQ23, l23, y23, z23⟩, st23⟩ := Jvm.LawKit.callS X20 hx (y := (⟨"com/example/samewire/samewire/NestingOpenPinLaw", "step", "(Lcom/example/samewire/samewire/Nesting;[IIII)V"⟩ : MethodName)) hown (mvT hZ (hw _ (List.mem_of_getElem? (i := 13) rfl))) (mvT hZ (hw _ (List.mem_of_getElem? (i := 14) rfl))) (mvT hZ (hw _ (List.mem_of_getElem? (i := 15) rfl))) (mvT hZ (hw _ (List.mem_of_getElem? (i := 16) rfl))) (by decide) (backOf (W := 0) (rm_stp l Z a0 hw [] b4 b10 lim p2 (1 : Int32) dn20 k10 T20.heap n0 Z20 f21_0 Fd20 Fl20 V20 ne_b4_b10 g_b4 g_b10) hZ (hw _ (List.mem_of_getElem? (i := 16) rfl)) (hw _ (List.mem_of_getElem? (i := 15) rfl)) (by decide) (by decide)) (g := (mkF m 61 #[.val (.int p1), .val (.int p2), .val (.int lim), .val (.ref b4), .val (.ref b10)] [(.int (1 : Int32)), (.int p2), (.int lim), (.ref b10), (.ref b4)])) rfl (by rw [hml]; rfl) (argsL := [(.ref b4), (.ref b10), (.int lim), (.int p2), (.int (1 : Int32))]) (rest := []) (lenOf pd__Lcom_example_samewire_samewire_Nesting__IIII_V rfl) rfl (by show 2 * 0 + _ ≤ _; exact Nat.le_of_eq rfl) (hb hby at_61) (fun _ _ => ⟨rfl, e20, (by decide : 2 + 0 ≤ _), (by decide : 4 + 0 ≤ _)⟩)
  dsimp only [Pt.U, Pt.locs, Pt.cells, Pt.slots] at X23 l23 y23 z23 st23 hQ23
  subst l23 y23 z23
  obtain ⟨rfl, N23q, Kc23, dn23, Fd23, Fl23, V23⟩ := hQ23
  have N23 := Fr.app N20 N23q
  have f24_0 := f21_0.keep Kc23
  have Z23 : n0 ≤ T23.heap.size := Nat.le_trans Z20 Kc23.1
  have e23 : T23.heap = T23.heap := rfl
  have pre25 : ∀ t, Steps p.tables e below (T23.setTop (mkF m 70 #[.val (.int p1), .val (.int p2), .val (.int lim), .val (.ref b4), .val (.ref b10)] [(.int (2 : Int32)), (.int p2), (.int lim), (.ref b10), (.ref b4)])) t → Steps p.tables e below (s₁.setTop (entryFrame m #[(.int p1), (.int p2)] maxLocals)) t := fun t k => pre22 t (by
    show Steps p.tables e below (T20.setTop (mkF m 61 #[.val (.int p1), .val (.int p2), .val (.int lim), .val (.ref b4), .val (.ref b10)] [(.int (1 : Int32)), (.int p2), (.int lim), (.ref b10), (.ref b4)])) _
    refine st23 _ ?_
    show Steps p.tables e below (T23.setTop (mkF m 64 #[.val (.int p1), .val (.int p2), .val (.int lim), .val (.ref b4), .val (.ref b10)] [])) _
    refine XS.aloadN X23.here hx rfl (hb hby at_64) rfl rfl ?_
    show Steps p.tables e below (T23.setTop (mkF m 65 #[.val (.int p1), .val (.int p2), .val (.int lim), .val (.ref b4), .val (.ref b10)] [(.ref b4)])) _
    refine XS.aload X23.here hx rfl (hb hby at_65) rfl rfl ?_
    show Steps p.tables e below (T23.setTop (mkF m 67 #[.val (.int p1), .val (.int p2), .val (.int lim), .val (.ref b4), .val (.ref b10)] [(.ref b10), (.ref b4)])) _
    refine XS.iloadN X23.here hx rfl (hb hby at_67) rfl ?_
    show Steps p.tables e below (T23.setTop (mkF m 68 #[.val (.int p1), .val (.int p2), .val (.int lim), .val (.ref b4), .val (.ref b10)] [(.int lim), (.ref b10), (.ref b4)])) _
    refine XS.iloadN X23.here hx rfl (hb hby at_68) rfl ?_
    show Steps p.tables e below (T23.setTop (mkF m 69 #[.val (.int p1), .val (.int p2), .val (.int lim), .val (.ref b4), .val (.ref b10)] [(.int p2), (.int lim), (.ref b10), (.ref b4)])) _
    refine XS.iconst X23.here hx rfl (hb hby at_69) ?_
    show Steps p.tables e below (T23.setTop (mkF m 70 #[.val (.int p1), .val (.int p2), .val (.int lim), .val (.ref b4), .val (.ref b10)] [(.int (2 : Int32)), (.int p2), (.int lim), (.ref b10), (.ref b4)])) _
    exact k)
  obtain ⟨_, _, ⟨T26, L26, kk26, nn26⟩, -, X26, ⟨Lc26, hQ26, l26, y26, z26⟩, st26⟩ := Jvm.LawKit.callS X23 hx (y := (⟨"com/example/samewire/samewire/NestingOpenPinLaw", "step", "(Lcom/example/samewire/samewire/Nesting;[IIII)V"⟩ : MethodName)) hown (mvT hZ (hw _ (List.mem_of_getElem? (i := 13) rfl))) (mvT hZ (hw _ (List.mem_of_getElem? (i := 14) rfl))) (mvT hZ (hw _ (List.mem_of_getElem? (i := 15) rfl))) (mvT hZ (hw _ (List.mem_of_getElem? (i := 16) rfl))) (by decide) (backOf (W := 0) (rm_stp l Z a0 hw [] b4 b10 lim p2 (2 : Int32) dn23 k10 T23.heap n0 Z23 f24_0 Fd23 Fl23 V23 ne_b4_b10 g_b4 g_b10) hZ (hw _ (List.mem_of_getElem? (i := 16) rfl)) (hw _ (List.mem_of_getElem? (i := 15) rfl)) (by decide) (by decide)) (g := (mkF m 70 #[.val (.int p1), .val (.int p2), .val (.int lim), .val (.ref b4), .val (.ref b10)] [(.int (2 : Int32)), (.int p2), (.int lim), (.ref b10), (.ref b4)])) rfl (by rw [hml]; rfl) (argsL := [(.ref b4), (.ref b10), (.int lim), (.int p2), (.int (2 : Int32))]) (rest := []) (lenOf pd__Lcom_example_samewire_samewire_Nesting__IIII_V rfl) rfl (by show 2 * 0 + _ ≤ _; exact Nat.le_of_eq rfl) (hb hby at_70) (fun _ _ => ⟨rfl, e23, (by decide : 2 + 0 ≤ _), (by decide : 4 + 0 ≤ _)⟩)
  dsimp only [Pt.U, Pt.locs, Pt.cells, Pt.slots] at X26 l26 y26 z26 st26 hQ26
  subst l26 y26 z26
  obtain ⟨rfl, N26q, Kc26, dn26, Fd26, Fl26, V26⟩ := hQ26
  have N26 := Fr.app N23 N26q
  have f27_0 := f24_0.keep Kc26
  have Z26 : n0 ≤ T26.heap.size := Nat.le_trans Z23 Kc26.1
  have e26 : T26.heap = T26.heap := rfl
  have pre28 : ∀ t, Steps p.tables e below (T26.setTop (mkF m 79 #[.val (.int p1), .val (.int p2), .val (.int lim), .val (.ref b4), .val (.ref b10)] [(.int (3 : Int32)), (.int p2), (.int lim), (.ref b10), (.ref b4)])) t → Steps p.tables e below (s₁.setTop (entryFrame m #[(.int p1), (.int p2)] maxLocals)) t := fun t k => pre25 t (by
    show Steps p.tables e below (T23.setTop (mkF m 70 #[.val (.int p1), .val (.int p2), .val (.int lim), .val (.ref b4), .val (.ref b10)] [(.int (2 : Int32)), (.int p2), (.int lim), (.ref b10), (.ref b4)])) _
    refine st26 _ ?_
    show Steps p.tables e below (T26.setTop (mkF m 73 #[.val (.int p1), .val (.int p2), .val (.int lim), .val (.ref b4), .val (.ref b10)] [])) _
    refine XS.aloadN X26.here hx rfl (hb hby at_73) rfl rfl ?_
    show Steps p.tables e below (T26.setTop (mkF m 74 #[.val (.int p1), .val (.int p2), .val (.int lim), .val (.ref b4), .val (.ref b10)] [(.ref b4)])) _
    refine XS.aload X26.here hx rfl (hb hby at_74) rfl rfl ?_
    show Steps p.tables e below (T26.setTop (mkF m 76 #[.val (.int p1), .val (.int p2), .val (.int lim), .val (.ref b4), .val (.ref b10)] [(.ref b10), (.ref b4)])) _
    refine XS.iloadN X26.here hx rfl (hb hby at_76) rfl ?_
    show Steps p.tables e below (T26.setTop (mkF m 77 #[.val (.int p1), .val (.int p2), .val (.int lim), .val (.ref b4), .val (.ref b10)] [(.int lim), (.ref b10), (.ref b4)])) _
    refine XS.iloadN X26.here hx rfl (hb hby at_77) rfl ?_
    show Steps p.tables e below (T26.setTop (mkF m 78 #[.val (.int p1), .val (.int p2), .val (.int lim), .val (.ref b4), .val (.ref b10)] [(.int p2), (.int lim), (.ref b10), (.ref b4)])) _
    refine XS.iconst X26.here hx rfl (hb hby at_78) ?_
    show Steps p.tables e below (T26.setTop (mkF m 79 #[.val (.int p1), .val (.int p2), .val (.int lim), .val (.ref b4), .val (.ref b10)] [(.int (3 : Int32)), (.int p2), (.int lim), (.ref b10), (.ref b4)])) _
    exact k)
  obtain ⟨_, _, ⟨T29, L29, kk29, nn29⟩, -, X29, ⟨Lc29, hQ29, l29, y29, z29⟩, st29⟩ := Jvm.LawKit.callS X26 hx (y := (⟨"com/example/samewire/samewire/NestingOpenPinLaw", "step", "(Lcom/example/samewire/samewire/Nesting;[IIII)V"⟩ : MethodName)) hown (mvT hZ (hw _ (List.mem_of_getElem? (i := 13) rfl))) (mvT hZ (hw _ (List.mem_of_getElem? (i := 14) rfl))) (mvT hZ (hw _ (List.mem_of_getElem? (i := 15) rfl))) (mvT hZ (hw _ (List.mem_of_getElem? (i := 16) rfl))) (by decide) (backOf (W := 0) (rm_stp l Z a0 hw [] b4 b10 lim p2 (3 : Int32) dn26 k10 T26.heap n0 Z26 f27_0 Fd26 Fl26 V26 ne_b4_b10 g_b4 g_b10) hZ (hw _ (List.mem_of_getElem? (i := 16) rfl)) (hw _ (List.mem_of_getElem? (i := 15) rfl)) (by decide) (by decide)) (g := (mkF m 79 #[.val (.int p1), .val (.int p2), .val (.int lim), .val (.ref b4), .val (.ref b10)] [(.int (3 : Int32)), (.int p2), (.int lim), (.ref b10), (.ref b4)])) rfl (by rw [hml]; rfl) (argsL := [(.ref b4), (.ref b10), (.int lim), (.int p2), (.int (3 : Int32))]) (rest := []) (lenOf pd__Lcom_example_samewire_samewire_Nesting__IIII_V rfl) rfl (by show 2 * 0 + _ ≤ _; exact Nat.le_of_eq rfl) (hb hby at_79) (fun _ _ => ⟨rfl, e26, (by decide : 2 + 0 ≤ _), (by decide : 4 + 0 ≤ _)⟩)
  dsimp only [Pt.U, Pt.locs, Pt.cells, Pt.slots] at X29 l29 y29 z29 st29 hQ29
  subst l29 y29 z29
  obtain ⟨rfl, N29q, Kc29, dn29, Fd29, Fl29, V29⟩ := hQ29
  have N29 := Fr.app N26 N29q
  have f30_0 := f27_0.keep Kc29
  have Z29 : n0 ≤ T29.heap.size := Nat.le_trans Z26 Kc29.1
  have e29 : T29.heap = T29.heap := rfl
  have pre31 : ∀ t, Steps p.tables e below (T29.setTop (mkF m 88 #[.val (.int p1), .val (.int p2), .val (.int lim), .val (.ref b4), .val (.ref b10)] [(.int (4 : Int32)), (.int p2), (.int lim), (.ref b10), (.ref b4)])) t → Steps p.tables e below (s₁.setTop (entryFrame m #[(.int p1), (.int p2)] maxLocals)) t := fun t k => pre28 t (by
    show Steps p.tables e below (T26.setTop (mkF m 79 #[.val (.int p1), .val (.int p2), .val (.int lim), .val (.ref b4), .val (.ref b10)] [(.int (3 : Int32)), (.int p2), (.int lim), (.ref b10), (.ref b4)])) _
    refine st29 _ ?_
    show Steps p.tables e below (T29.setTop (mkF m 82 #[.val (.int p1), .val (.int p2), .val (.int lim), .val (.ref b4), .val (.ref b10)] [])) _
    refine XS.aloadN X29.here hx rfl (hb hby at_82) rfl rfl ?_
    show Steps p.tables e below (T29.setTop (mkF m 83 #[.val (.int p1), .val (.int p2), .val (.int lim), .val (.ref b4), .val (.ref b10)] [(.ref b4)])) _
    refine XS.aload X29.here hx rfl (hb hby at_83) rfl rfl ?_
    show Steps p.tables e below (T29.setTop (mkF m 85 #[.val (.int p1), .val (.int p2), .val (.int lim), .val (.ref b4), .val (.ref b10)] [(.ref b10), (.ref b4)])) _
    refine XS.iloadN X29.here hx rfl (hb hby at_85) rfl ?_
    show Steps p.tables e below (T29.setTop (mkF m 86 #[.val (.int p1), .val (.int p2), .val (.int lim), .val (.ref b4), .val (.ref b10)] [(.int lim), (.ref b10), (.ref b4)])) _
    refine XS.iloadN X29.here hx rfl (hb hby at_86) rfl ?_
    show Steps p.tables e below (T29.setTop (mkF m 87 #[.val (.int p1), .val (.int p2), .val (.int lim), .val (.ref b4), .val (.ref b10)] [(.int p2), (.int lim), (.ref b10), (.ref b4)])) _
    refine XS.iconst X29.here hx rfl (hb hby at_87) ?_
    show Steps p.tables e below (T29.setTop (mkF m 88 #[.val (.int p1), .val (.int p2), .val (.int lim), .val (.ref b4), .val (.ref b10)] [(.int (4 : Int32)), (.int p2), (.int lim), (.ref b10), (.ref b4)])) _
    exact k)
  obtain ⟨_, _, ⟨T32, L32, kk32, nn32⟩, -, X32, ⟨Lc32, hQ32, l32, y32, z32⟩, st32⟩ := Jvm.LawKit.callS X29 hx (y := (⟨"com/example/samewire/samewire/NestingOpenPinLaw", "step", "(Lcom/example/samewire/samewire/Nesting;[IIII)V"⟩ : MethodName)) hown (mvT hZ (hw _ (List.mem_of_getElem? (i := 13) rfl))) (mvT hZ (hw _ (List.mem_of_getElem? (i := 14) rfl))) (mvT hZ (hw _ (List.mem_of_getElem? (i := 15) rfl))) (mvT hZ (hw _ (List.mem_of_getElem? (i := 16) rfl))) (by decide) (backOf (W := 0) (rm_stp l Z a0 hw [] b4 b10 lim p2 (4 : Int32) dn29 k10 T29.heap n0 Z29 f30_0 Fd29 Fl29 V29 ne_b4_b10 g_b4 g_b10) hZ (hw _ (List.mem_of_getElem? (i := 16) rfl)) (hw _ (List.mem_of_getElem? (i := 15) rfl)) (by decide) (by decide)) (g := (mkF m 88 #[.val (.int p1), .val (.int p2), .val (.int lim), .val (.ref b4), .val (.ref b10)] [(.int (4 : Int32)), (.int p2), (.int lim), (.ref b10), (.ref b4)])) rfl (by rw [hml]; rfl) (argsL := [(.ref b4), (.ref b10), (.int lim), (.int p2), (.int (4 : Int32))]) (rest := []) (lenOf pd__Lcom_example_samewire_samewire_Nesting__IIII_V rfl) rfl (by show 2 * 0 + _ ≤ _; exact Nat.le_of_eq rfl) (hb hby at_88) (fun _ _ => ⟨rfl, e29, (by decide : 2 + 0 ≤ _), (by decide : 4 + 0 ≤ _)⟩)
  dsimp only [Pt.U, Pt.locs, Pt.cells, Pt.slots] at X32 l32 y32 z32 st32 hQ32
  subst l32 y32 z32
  obtain ⟨rfl, N32q, Kc32, dn32, Fd32, Fl32, V32⟩ := hQ32
  have N32 := Fr.app N29 N32q
  have f33_0 := f30_0.keep Kc32
  have Z32 : n0 ≤ T32.heap.size := Nat.le_trans Z29 Kc32.1
  have e32 : T32.heap = T32.heap := rfl
  have pre34 : ∀ t, Steps p.tables e below (T32.setTop (mkF m 97 #[.val (.int p1), .val (.int p2), .val (.int lim), .val (.ref b4), .val (.ref b10)] [(.int (5 : Int32)), (.int p2), (.int lim), (.ref b10), (.ref b4)])) t → Steps p.tables e below (s₁.setTop (entryFrame m #[(.int p1), (.int p2)] maxLocals)) t := fun t k => pre31 t (by
    show Steps p.tables e below (T29.setTop (mkF m 88 #[.val (.int p1), .val (.int p2), .val (.int lim), .val (.ref b4), .val (.ref b10)] [(.int (4 : Int32)), (.int p2), (.int lim), (.ref b10), (.ref b4)])) _
    refine st32 _ ?_
    show Steps p.tables e below (T32.setTop (mkF m 91 #[.val (.int p1), .val (.int p2), .val (.int lim), .val (.ref b4), .val (.ref b10)] [])) _
    refine XS.aloadN X32.here hx rfl (hb hby at_91) rfl rfl ?_
    show Steps p.tables e below (T32.setTop (mkF m 92 #[.val (.int p1), .val (.int p2), .val (.int lim), .val (.ref b4), .val (.ref b10)] [(.ref b4)])) _
    refine XS.aload X32.here hx rfl (hb hby at_92) rfl rfl ?_
    show Steps p.tables e below (T32.setTop (mkF m 94 #[.val (.int p1), .val (.int p2), .val (.int lim), .val (.ref b4), .val (.ref b10)] [(.ref b10), (.ref b4)])) _
    refine XS.iloadN X32.here hx rfl (hb hby at_94) rfl ?_
    show Steps p.tables e below (T32.setTop (mkF m 95 #[.val (.int p1), .val (.int p2), .val (.int lim), .val (.ref b4), .val (.ref b10)] [(.int lim), (.ref b10), (.ref b4)])) _
    refine XS.iloadN X32.here hx rfl (hb hby at_95) rfl ?_
    show Steps p.tables e below (T32.setTop (mkF m 96 #[.val (.int p1), .val (.int p2), .val (.int lim), .val (.ref b4), .val (.ref b10)] [(.int p2), (.int lim), (.ref b10), (.ref b4)])) _
    refine XS.iconst X32.here hx rfl (hb hby at_96) ?_
    show Steps p.tables e below (T32.setTop (mkF m 97 #[.val (.int p1), .val (.int p2), .val (.int lim), .val (.ref b4), .val (.ref b10)] [(.int (5 : Int32)), (.int p2), (.int lim), (.ref b10), (.ref b4)])) _
    exact k)
  obtain ⟨_, _, ⟨T35, L35, kk35, nn35⟩, -, X35, ⟨Lc35, hQ35, l35, y35, z35⟩, st35⟩ := Jvm.LawKit.callS X32 hx (y := (⟨"com/example/samewire/samewire/NestingOpenPinLaw", "step", "(Lcom/example/samewire/samewire/Nesting;[IIII)V"⟩ : MethodName)) hown (mvT hZ (hw _ (List.mem_of_getElem? (i := 13) rfl))) (mvT hZ (hw _ (List.mem_of_getElem? (i := 14) rfl))) (mvT hZ (hw _ (List.mem_of_getElem? (i := 15) rfl))) (mvT hZ (hw _ (List.mem_of_getElem? (i := 16) rfl))) (by decide) (backOf (W := 0) (rm_stp l Z a0 hw [] b4 b10 lim p2 (5 : Int32) dn32 k10 T32.heap n0 Z32 f33_0 Fd32 Fl32 V32 ne_b4_b10 g_b4 g_b10) hZ (hw _ (List.mem_of_getElem? (i := 16) rfl)) (hw _ (List.mem_of_getElem? (i := 15) rfl)) (by decide) (by decide)) (g := (mkF m 97 #[.val (.int p1), .val (.int p2), .val (.int lim), .val (.ref b4), .val (.ref b10)] [(.int (5 : Int32)), (.int p2), (.int lim), (.ref b10), (.ref b4)])) rfl (by rw [hml]; rfl) (argsL := [(.ref b4), (.ref b10), (.int lim), (.int p2), (.int (5 : Int32))]) (rest := []) (lenOf pd__Lcom_example_samewire_samewire_Nesting__IIII_V rfl) rfl (by show 2 * 0 + _ ≤ _; exact Nat.le_of_eq rfl) (hb hby at_97) (fun _ _ => ⟨rfl, e32, (by decide : 2 + 0 ≤ _), (by decide : 4 + 0 ≤ _)⟩)
  dsimp only [Pt.U, Pt.locs, Pt.cells, Pt.slots] at X35 l35 y35 z35 st35 hQ35
  subst l35 y35 z35
  obtain ⟨rfl, N35q, Kc35, dn35, Fd35, Fl35, V35⟩ := hQ35
  have N35 := Fr.app N32 N35q
  have f36_0 := f33_0.keep Kc35
  have Z35 : n0 ≤ T35.heap.size := Nat.le_trans Z32 Kc35.1
  have e35 : T35.heap = T35.heap := rfl
  have pre37 : ∀ t, Steps p.tables e below (T35.setTop (mkF m 107 #[.val (.int p1), .val (.int p2), .val (.int lim), .val (.ref b4), .val (.ref b10)] [(.int (6 : Int32)), (.int p2), (.int lim), (.ref b10), (.ref b4)])) t → Steps p.tables e below (s₁.setTop (entryFrame m #[(.int p1), (.int p2)] maxLocals)) t := fun t k => pre34 t (by
    show Steps p.tables e below (T32.setTop (mkF m 97 #[.val (.int p1), .val (.int p2), .val (.int lim), .val (.ref b4), .val (.ref b10)] [(.int (5 : Int32)), (.int p2), (.int lim), (.ref b10), (.ref b4)])) _
    refine st35 _ ?_
    show Steps p.tables e below (T35.setTop (mkF m 100 #[.val (.int p1), .val (.int p2), .val (.int lim), .val (.ref b4), .val (.ref b10)] [])) _
    refine XS.aloadN X35.here hx rfl (hb hby at_100) rfl rfl ?_
    show Steps p.tables e below (T35.setTop (mkF m 101 #[.val (.int p1), .val (.int p2), .val (.int lim), .val (.ref b4), .val (.ref b10)] [(.ref b4)])) _
    refine XS.aload X35.here hx rfl (hb hby at_101) rfl rfl ?_
    show Steps p.tables e below (T35.setTop (mkF m 103 #[.val (.int p1), .val (.int p2), .val (.int lim), .val (.ref b4), .val (.ref b10)] [(.ref b10), (.ref b4)])) _
    refine XS.iloadN X35.here hx rfl (hb hby at_103) rfl ?_
    show Steps p.tables e below (T35.setTop (mkF m 104 #[.val (.int p1), .val (.int p2), .val (.int lim), .val (.ref b4), .val (.ref b10)] [(.int lim), (.ref b10), (.ref b4)])) _
    refine XS.iloadN X35.here hx rfl (hb hby at_104) rfl ?_
    show Steps p.tables e below (T35.setTop (mkF m 105 #[.val (.int p1), .val (.int p2), .val (.int lim), .val (.ref b4), .val (.ref b10)] [(.int p2), (.int lim), (.ref b10), (.ref b4)])) _
    refine XS.bipush X35.here hx rfl (hb hby at_105) ?_
    show Steps p.tables e below (T35.setTop (mkF m 107 #[.val (.int p1), .val (.int p2), .val (.int lim), .val (.ref b4), .val (.ref b10)] [(.int (6 : Int32)), (.int p2), (.int lim), (.ref b10), (.ref b4)])) _
    exact k)
  obtain ⟨_, _, ⟨T38, L38, kk38, nn38⟩, -, X38, ⟨Lc38, hQ38, l38, y38, z38⟩, st38⟩ := Jvm.LawKit.callS X35 hx (y := (⟨"com/example/samewire/samewire/NestingOpenPinLaw", "step", "(Lcom/example/samewire/samewire/Nesting;[IIII)V"⟩ : MethodName)) hown (mvT hZ (hw _ (List.mem_of_getElem? (i := 13) rfl))) (mvT hZ (hw _ (List.mem_of_getElem? (i := 14) rfl))) (mvT hZ (hw _ (List.mem_of_getElem? (i := 15) rfl))) (mvT hZ (hw _ (List.mem_of_getElem? (i := 16) rfl))) (by decide) (backOf (W := 0) (rm_stp l Z a0 hw [] b4 b10 lim p2 (6 : Int32) dn35 k10 T35.heap n0 Z35 f36_0 Fd35 Fl35 V35 ne_b4_b10 g_b4 g_b10) hZ (hw _ (List.mem_of_getElem? (i := 16) rfl)) (hw _ (List.mem_of_getElem? (i := 15) rfl)) (by decide) (by decide)) (g := (mkF m 107 #[.val (.int p1), .val (.int p2), .val (.int lim), .val (.ref b4), .val (.ref b10)] [(.int (6 : Int32)), (.int p2), (.int lim), (.ref b10), (.ref b4)])) rfl (by rw [hml]; rfl) (argsL := [(.ref b4), (.ref b10), (.int lim), (.int p2), (.int (6 : Int32))]) (rest := []) (lenOf pd__Lcom_example_samewire_samewire_Nesting__IIII_V rfl) rfl (by show 2 * 0 + _ ≤ _; exact Nat.le_of_eq rfl) (hb hby at_107) (fun _ _ => ⟨rfl, e35, (by decide : 2 + 0 ≤ _), (by decide : 4 + 0 ≤ _)⟩)
  dsimp only [Pt.U, Pt.locs, Pt.cells, Pt.slots] at X38 l38 y38 z38 st38 hQ38
  subst l38 y38 z38
  obtain ⟨rfl, N38q, Kc38, dn38, Fd38, Fl38, V38⟩ := hQ38
  have N38 := Fr.app N35 N38q
  have f39_0 := f36_0.keep Kc38
  have Z38 : n0 ≤ T38.heap.size := Nat.le_trans Z35 Kc38.1
  have e38 : T38.heap = T38.heap := rfl
  have pre40 : ∀ t, Steps p.tables e below (T38.setTop (mkF m 117 #[.val (.int p1), .val (.int p2), .val (.int lim), .val (.ref b4), .val (.ref b10)] [(.int (7 : Int32)), (.int p2), (.int lim), (.ref b10), (.ref b4)])) t → Steps p.tables e below (s₁.setTop (entryFrame m #[(.int p1), (.int p2)] maxLocals)) t := fun t k => pre37 t (by
    show Steps p.tables e below (T35.setTop (mkF m 107 #[.val (.int p1), .val (.int p2), .val (.int lim), .val (.ref b4), .val (.ref b10)] [(.int (6 : Int32)), (.int p2), (.int lim), (.ref b10), (.ref b4)])) _
    refine st38 _ ?_
    show Steps p.tables e below (T38.setTop (mkF m 110 #[.val (.int p1), .val (.int p2), .val (.int lim), .val (.ref b4), .val (.ref b10)] [])) _
    refine XS.aloadN X38.here hx rfl (hb hby at_110) rfl rfl ?_
    show Steps p.tables e below (T38.setTop (mkF m 111 #[.val (.int p1), .val (.int p2), .val (.int lim), .val (.ref b4), .val (.ref b10)] [(.ref b4)])) _
    refine XS.aload X38.here hx rfl (hb hby at_111) rfl rfl ?_
    show Steps p.tables e below (T38.setTop (mkF m 113 #[.val (.int p1), .val (.int p2), .val (.int lim), .val (.ref b4), .val (.ref b10)] [(.ref b10), (.ref b4)])) _
    refine XS.iloadN X38.here hx rfl (hb hby at_113) rfl ?_
    show Steps p.tables e below (T38.setTop (mkF m 114 #[.val (.int p1), .val (.int p2), .val (.int lim), .val (.ref b4), .val (.ref b10)] [(.int lim), (.ref b10), (.ref b4)])) _
    refine XS.iloadN X38.here hx rfl (hb hby at_114) rfl ?_
    show Steps p.tables e below (T38.setTop (mkF m 115 #[.val (.int p1), .val (.int p2), .val (.int lim), .val (.ref b4), .val (.ref b10)] [(.int p2), (.int lim), (.ref b10), (.ref b4)])) _
    refine XS.bipush X38.here hx rfl (hb hby at_115) ?_
    show Steps p.tables e below (T38.setTop (mkF m 117 #[.val (.int p1), .val (.int p2), .val (.int lim), .val (.ref b4), .val (.ref b10)] [(.int (7 : Int32)), (.int p2), (.int lim), (.ref b10), (.ref b4)])) _
    exact k)
  obtain ⟨_, _, ⟨T41, L41, kk41, nn41⟩, -, X41, ⟨Lc41, hQ41, l41, y41, z41⟩, st41⟩ := Jvm.LawKit.callS X38 hx (y := (⟨"com/example/samewire/samewire/NestingOpenPinLaw", "step", "(Lcom/example/samewire/samewire/Nesting;[IIII)V"⟩ : MethodName)) hown (mvT hZ (hw _ (List.mem_of_getElem? (i := 13) rfl))) (mvT hZ (hw _ (List.mem_of_getElem? (i := 14) rfl))) (mvT hZ (hw _ (List.mem_of_getElem? (i := 15) rfl))) (mvT hZ (hw _ (List.mem_of_getElem? (i := 16) rfl))) (by decide) (backOf (W := 0) (rm_stp l Z a0 hw [] b4 b10 lim p2 (7 : Int32) dn38 k10 T38.heap n0 Z38 f39_0 Fd38 Fl38 V38 ne_b4_b10 g_b4 g_b10) hZ (hw _ (List.mem_of_getElem? (i := 16) rfl)) (hw _ (List.mem_of_getElem? (i := 15) rfl)) (by decide) (by decide)) (g := (mkF m 117 #[.val (.int p1), .val (.int p2), .val (.int lim), .val (.ref b4), .val (.ref b10)] [(.int (7 : Int32)), (.int p2), (.int lim), (.ref b10), (.ref b4)])) rfl (by rw [hml]; rfl) (argsL := [(.ref b4), (.ref b10), (.int lim), (.int p2), (.int (7 : Int32))]) (rest := []) (lenOf pd__Lcom_example_samewire_samewire_Nesting__IIII_V rfl) rfl (by show 2 * 0 + _ ≤ _; exact Nat.le_of_eq rfl) (hb hby at_117) (fun _ _ => ⟨rfl, e38, (by decide : 2 + 0 ≤ _), (by decide : 4 + 0 ≤ _)⟩)
  dsimp only [Pt.U, Pt.locs, Pt.cells, Pt.slots] at X41 l41 y41 z41 st41 hQ41
  subst l41 y41 z41
  obtain ⟨rfl, N41q, Kc41, dn41, Fd41, Fl41, V41⟩ := hQ41
  have N41 := Fr.app N38 N41q
  have f42_0 := f39_0.keep Kc41
  have Z41 : n0 ≤ T41.heap.size := Nat.le_trans Z38 Kc41.1
  have e41 : T41.heap = T41.heap := rfl
  obtain ⟨cl43, Ar43, kc43, S43, M43, H43, G43⟩ := id V41
  have hin43 := inb_of S43 (j := (1 : Int32)) (by decide)
  have hat43 : cl43.slots[((1 : Int32)).toNatClampNeg]? = some (.int (1 : Int32)) := H43.at hin43 rfl
  have pre44 : ∀ t, Steps p.tables e below (T41.setTop (mkF m 133 #[.val (.int p1), .val (.int p2), .val (.int lim), .val (.ref b4), .val (.ref b10)] [(.int (1 : Int32))])) t → Steps p.tables e below (s₁.setTop (entryFrame m #[(.int p1), (.int p2)] maxLocals)) t := fun t k => pre40 t (by
    show Steps p.tables e below (T38.setTop (mkF m 117 #[.val (.int p1), .val (.int p2), .val (.int lim), .val (.ref b4), .val (.ref b10)] [(.int (7 : Int32)), (.int p2), (.int lim), (.ref b10), (.ref b4)])) _
    refine st41 _ ?_
    show Steps p.tables e below (T41.setTop (mkF m 120 #[.val (.int p1), .val (.int p2), .val (.int lim), .val (.ref b4), .val (.ref b10)] [])) _
    refine XS.aload X41.here hx rfl (hb hby at_120) rfl rfl ?_
    show Steps p.tables e below (T41.setTop (mkF m 122 #[.val (.int p1), .val (.int p2), .val (.int lim), .val (.ref b4), .val (.ref b10)] [(.ref b10)])) _
    refine XS.iconst X41.here hx rfl (hb hby at_122) ?_
    show Steps p.tables e below (T41.setTop (mkF m 123 #[.val (.int p1), .val (.int p2), .val (.int lim), .val (.ref b4), .val (.ref b10)] [(.int (1 : Int32)), (.ref b10)])) _
    refine X41.iaload hx (j := (1 : Int32)) (v := (.int (1 : Int32))) (by rw [e41]; exact Ar43.1) (State.isArrayOf_alike hZ.alike Ar43.2.1) Ar43.2.2 hin43 hat43 (g := (mkF m 123 #[.val (.int p1), .val (.int p2), .val (.int lim), .val (.ref b4), .val (.ref b10)] [(.int (1 : Int32)), (.ref b10)])) rfl rfl (hb hby at_123) _ ?_
    show Steps p.tables e below (T41.setTop (mkF m 124 #[.val (.int p1), .val (.int p2), .val (.int lim), .val (.ref b4), .val (.ref b10)] [(.int (1 : Int32))])) _
    refine XS.iconst X41.here hx rfl (hb hby at_124) ?_
    show Steps p.tables e below (T41.setTop (mkF m 125 #[.val (.int p1), .val (.int p2), .val (.int lim), .val (.ref b4), .val (.ref b10)] [(.int (1 : Int32)), (.int (1 : Int32))])) _
    refine XS.icmpNo X41.here hx rfl (hb hby at_125) rfl (XT.ii_ne_f rfl) ?_
    show Steps p.tables e below (T41.setTop (mkF m 128 #[.val (.int p1), .val (.int p2), .val (.int lim), .val (.ref b4), .val (.ref b10)] [])) _
    refine XS.iconst X41.here hx rfl (hb hby at_128) ?_
    show Steps p.tables e below (T41.setTop (mkF m 129 #[.val (.int p1), .val (.int p2), .val (.int lim), .val (.ref b4), .val (.ref b10)] [(.int (1 : Int32))])) _
    refine XS.goto X41.here hx rfl (pc0 := 129) (pc' := 133) rfl (hb hby at_129) (by decide) (by decide) ?_
    show Steps p.tables e below (T41.setTop (mkF m 133 #[.val (.int p1), .val (.int p2), .val (.int lim), .val (.ref b4), .val (.ref b10)] [(.int (1 : Int32))])) _
    exact k)
  obtain ⟨fs, hr, hrun, hended, hW, hsame⟩ := X41.leave (v := some (.int (1 : Int32))) (fun h => by rw [Bd.returns] at h; cases h)
  refine ⟨_, _, pre44 _ ?_, hrun, hended, _, _, rfl, ?_, ⟨_, rfl⟩, hW, hsame.mono (by decide) (by decide)⟩
  · exact retN X41 hx (t := .boolean) Bd.returns (by simp) (hb hby at_133) hr
  · show Q_0 Z p1 p2 h0 n0 _ T41.heap _
    skip
    exact ⟨rfl, N41⟩
set_option maxRecDepth 65536 in
set_option maxHeartbeats 40000000 in
theorem comes_1 {Post : Tables → Env → Array Value → State → Outcome → State → Prop} (hpost : ∀ tb e args s v u, (limb_1_1.after args s (.returned v) u = true ∧ limb_1_2.after args s (.returned v) u = true ∧ True) → FrameEnd s (.returned v) u (Jvm.fieldLocs frame_1_writes args s ++ Jvm.arrayLocs frame_1_arrays args s ++ Jvm.staticLocs frame_1_statics s) 16 128 → Post tb e args s (.returned v) u) :
    ArmFor flags0 classFile x code maxLocals ret World_1 tables_1 room_1 Calls_1 rest_1 Pre_1 Post := by
  intro l hfl _ _ p e ha hc hk s m args below hf hA hF happ hP
  obtain ⟨hcalls, hrest, hpre⟩ := hP
  obtain ⟨-, -, -, hnamed, -, -, -, hat⟩ := (Spec.applies_iff hf).mp happ
  obtain ⟨hg, hn⟩ := and_e (Cond.before_iff.mp (show (Jvm.Cond.and given_1 narrow_1).before args s = true from hpre))
  obtain ⟨gc, hg⟩ := and_e hg
  obtain ⟨gi0, hg⟩ := and_e hg
  have gi1 := hg
  obtain ⟨w0, w1, rfl⟩ : ∃ w0 w1 : Value, args = #[w0, w1] := by
    have hs : args.size = 2 := by simpa [Cond.value, given_1] using gc
    obtain ⟨L⟩ := args
    match L, hs with
    | [w0, w1], _ => exact ⟨w0, w1, rfl⟩
  have hw := fun d (hd : d ∈ tables_1) => atoms_spec (ws := Jvm.Cond.code x code maxLocals ret :: tables_1) hat d (List.mem_cons_of_mem _ hd)
  have hfit : Fit s := fun {y c} hc i hi => by
    obtain ⟨ha, rfl⟩ := Array.getElem?_eq_some_iff.mp hc
    have q := List.all_eq_true.mp ((Array.all_eq_true_iff_forall_mem.mp hF) _ (Array.getElem_mem ha)) i (List.mem_range.mpr hi)
    simpa [Array.getElem?_eq_getElem hi] using q
  obtain ⟨i0, ei0⟩ := is_v gi0
  obtain rfl : w0 = (.int i0) := Option.some.inj ei0
  obtain ⟨i1, ei1⟩ := is_v gi1
  obtain rfl : w1 = (.int i1) := Option.some.inj ei1
  obtain ⟨n, o, h1, h2, h3, _, L, rfl, ⟨rfl, N⟩, hq⟩ := rm_0 l s _ hw tables_1 i0 i1  s.heap s.heap.size (Nat.le_refl _)  p e ha hc hk s m _ below hf ((Spec.applies_iff_loose hf).mp happ).1 ⟨rfl, State.Warmed39.refl s, rfl⟩ trivial
  refine ⟨n, _, h1, h2, h3, hpost _ _ _ _ _ _ ⟨Cond.after_iff.mpr rfl, Cond.after_iff.mpr (eq_i res_at (Term.int_eval (1)) rfl), trivial⟩ ⟨hq.1, hq.2.1, (hq.2.2.sift fun y hy => Or.inr (N y hy)).mono (by decide) (by decide)⟩⟩
theorem main_1_1 : Claimed_1_1 := comes_1 fun _ _ _ _ _ _ h hF => ⟨h.1, hF⟩
theorem main_1_2 : Claimed_1_2 := comes_1 fun _ _ _ _ _ _ h hF => ⟨h.2.1, hF⟩
end Jvm.Pilot.@@N@@
namespace Jvm.Pilot.@@N@@
open Jvm Jvm.ClassFile Sem Op Lib Jvm.Free Jvm.Stand Jvm.Pilot.@@N@@.Jvm.D
/-! MADE BY PROGRAM (witnessworld.py) out of the Statement's table words and the real class files: 9 classes; the members and pool entries that the words name. The judged class is class 1, her method 1. -/
namespace start1
open Jvm.ClassFile
def u (s : String) : CpInfo := .utf8 (stringToUtf16 s)
/-- a pool by its gaps: so many unusable entries, then the entry; so many at the end -/
def gap : Nat → List CpInfo → List CpInfo
  | 0, r => r
  | n + 1, r => .unusable :: gap n r
def poolList (es : List (Nat × CpInfo)) (last : Nat) : List CpInfo := es.foldr (fun e r => gap e.1 (e.2 :: r)) (gap last [])
def pool (es : List (Nat × CpInfo)) (last : Nat) : Array CpInfo := ⟨poolList es last⟩
def fileOf (pool : Array CpInfo) (this : Nat) (attrs : Array Attribute := #[]) (ms : Array MethodInfo := #[]) (fl : Nat := 33) (sup : Nat := 0) (ifs : Array Nat := #[]) (fds : Array FieldInfo := #[]) : ClassFile where
  minorVersion := 0
  majorVersion := 65
  constantPool := pool
  accessFlags := fl
  thisClass := this
  superClass := sup
  interfaces := ifs
  fields := fds
  methods := ms
  attributes := attrs
def plain (name : String) (sup : Option ClassId) : Class where
  name := name
  kind := .ordinary
  loader := none
  accessFlags := 33
  super := sup
  interfaces := #[]
  cf := none
  fields := #[]
  methods := #[]
  instanceTypes := #[]
  staticTypes := #[]
  resolved := #[]
  callSites := []
  init := .initialized
  statics := none
  mirror := none

def pool0 : Array CpInfo := pool [(5, u "<init>"), (0, u "()V"), (1, .class_ 10), (1, u "java/lang/Object")] 113

def k0c0 : Code := { maxStack := 0, maxLocals := 1, code := object_method_1_code, exceptionTable := #[], attributes := #[] }
def k0m0 : Method := { name := "<init>", desc := "()V", sig := { parameters := [], returnType := none }, accessFlags := 1, code := some k0c0 }
/-- java/lang/Object -/
def k0 : Class := { plain "java/lang/Object" none with
  accessFlags := 33
  interfaces := #[]
  cf := some (fileOf pool0 8 #[] #[{ accessFlags := 1, nameIndex := 5, descriptorIndex := 6, attributes := #[] }] 33 0 #[] #[])
  fields := #[]
  methods := #[k0m0]
  instanceTypes := #[]
  staticTypes := #[]
  resolved := Array.replicate 124 none
  statics := none }

def pool1 : Array CpInfo := pool [(2, .class_ 4), (1, u "java/lang/Object"), (0, u "<init>"), (0, u "()V"), (0, .integer 2147483647), (0, .class_ 9), (0, u "com/example/samewire/samewire/Nesting"), (0, .methodref 8 11), (0, .nameAndType 5 12), (0, u "(I)V"), (0, .methodref 14 15), (0, .class_ 16), (0, .nameAndType 17 18), (0, u "com/example/samewire/samewire/NestingOpenPinLaw"), (0, u "step"), (0, u "(Lcom/example/samewire/samewire/Nesting;[IIII)V"), (0, .methodref 8 20), (0, .nameAndType 21 6), (0, u "close"), (0, .methodref 8 23), (0, .nameAndType 24 25), (0, u "open"), (0, u "()Z"), (2, u "law"), (0, u "(II)Z")] 5

def k1m0 : Method := { name := "<init>", desc := "()V", sig := { parameters := [], returnType := none }, accessFlags := 1, code := none }
def k1c1 : Code := { maxStack := 5, maxLocals := 5, code := code, exceptionTable := #[], attributes := #[] }
def k1m1 : Method := { name := "law", desc := "(II)Z", sig := { parameters := [.int, .int], returnType := some .boolean }, accessFlags := 9, code := some k1c1 }
def k1c2 : Code := { maxStack := 4, maxLocals := 8, code := method_3_code, exceptionTable := #[], attributes := #[] }
def k1m2 : Method := { name := "step", desc := "(Lcom/example/samewire/samewire/Nesting;[IIII)V", sig := { parameters := [(.object "com/example/samewire/samewire/Nesting"), (.array .int), .int, .int, .int], returnType := none }, accessFlags := 10, code := some k1c2 }
/-- com/example/samewire/samewire/NestingOpenPinLaw -/
def k1 : Class := { plain "com/example/samewire/samewire/NestingOpenPinLaw" (some 0) with
  accessFlags := 49
  interfaces := #[]
  cf := some (fileOf pool1 14 #[] #[{ accessFlags := 1, nameIndex := 5, descriptorIndex := 6, attributes := #[] }, { accessFlags := 9, nameIndex := 28, descriptorIndex := 29, attributes := #[] }, { accessFlags := 10, nameIndex := 17, descriptorIndex := 18, attributes := #[] }] 49 2 #[] #[])
  fields := #[]
  methods := #[k1m0, k1m1, k1m2]
  instanceTypes := #[]
  staticTypes := #[]
  resolved := Array.replicate 35 none
  statics := none }

def pool2 : Array CpInfo := pool [(1, .methodref 2 3), (0, .class_ 4), (0, .nameAndType 5 6), (0, u "java/lang/Object"), (0, u "<init>"), (0, u "()V"), (0, .class_ 8), (0, u "com/example/samewire/samewire/Nesting"), (9, .fieldref 7 19), (0, .nameAndType 20 21), (0, u "limit"), (0, u "I"), (0, .fieldref 7 23), (0, .nameAndType 24 21), (0, u "depth"), (1, u "DEFAULT_LIMIT"), (2, u "MAX_LIMIT"), (0, u "(I)V"), (3, u "open"), (0, u "()Z"), (0, u "close")] 21

def k2c0 : Code := { maxStack := 3, maxLocals := 2, code := prog_26_method_1_code, exceptionTable := #[], attributes := #[] }
def k2m0 : Method := { name := "<init>", desc := "(I)V", sig := { parameters := [.int], returnType := none }, accessFlags := 0, code := some k2c0 }
def k2c1 : Code := { maxStack := 3, maxLocals := 1, code := prog_26_method_2_code, exceptionTable := #[], attributes := #[] }
def k2m1 : Method := { name := "open", desc := "()Z", sig := { parameters := [], returnType := some .boolean }, accessFlags := 0, code := some k2c1 }
def k2c2 : Code := { maxStack := 3, maxLocals := 1, code := prog_26_method_3_code, exceptionTable := #[], attributes := #[] }
def k2m2 : Method := { name := "close", desc := "()V", sig := { parameters := [], returnType := none }, accessFlags := 0, code := some k2c2 }
/-- com/example/samewire/samewire/Nesting -/
def k2 : Class := { plain "com/example/samewire/samewire/Nesting" (some 0) with
  accessFlags := 49
  interfaces := #[]
  cf := some (fileOf pool2 7 #[] #[{ accessFlags := 0, nameIndex := 5, descriptorIndex := 30, attributes := #[] }, { accessFlags := 0, nameIndex := 34, descriptorIndex := 35, attributes := #[] }, { accessFlags := 0, nameIndex := 36, descriptorIndex := 6, attributes := #[] }] 49 2 #[] #[{ accessFlags := 25, nameIndex := 26, descriptorIndex := 21, attributes := #[] }, { accessFlags := 25, nameIndex := 29, descriptorIndex := 21, attributes := #[] }, { accessFlags := 18, nameIndex := 20, descriptorIndex := 21, attributes := #[] }, { accessFlags := 2, nameIndex := 24, descriptorIndex := 21, attributes := #[] }])
  fields := #[{ name := "DEFAULT_LIMIT", type := .int, accessFlags := 25, slot := 0, constantValue := 0 }, { name := "MAX_LIMIT", type := .int, accessFlags := 25, slot := 1, constantValue := 0 }, { name := "limit", type := .int, accessFlags := 18, slot := 0, constantValue := 0 }, { name := "depth", type := .int, accessFlags := 2, slot := 1, constantValue := 0 }]
  methods := #[k2m0, k2m1, k2m2]
  instanceTypes := #[.int, .int]
  staticTypes := #[.int, .int]
  resolved := Array.replicate 58 none
  statics := none }

def pool3 : Array CpInfo := pool [(1, u "java/lang/Cloneable"), (0, .class_ 1), (0, u "java/lang/Object"), (0, .class_ 3)] 3

/-- java/lang/Cloneable -/
def k3 : Class := { plain "java/lang/Cloneable" (some 0) with
  accessFlags := 1537
  interfaces := #[]
  cf := some (fileOf pool3 2 #[] #[] 1537 4 #[] #[])
  fields := #[]
  methods := #[]
  instanceTypes := #[]
  staticTypes := #[]
  resolved := Array.replicate 8 none
  statics := none }

def pool4 : Array CpInfo := pool [(1, u "java/io/Serializable"), (0, .class_ 1), (0, u "java/lang/Object"), (0, .class_ 3)] 3

/-- java/io/Serializable -/
def k4 : Class := { plain "java/io/Serializable" (some 0) with
  accessFlags := 1537
  interfaces := #[]
  cf := some (fileOf pool4 2 #[] #[] 1537 4 #[] #[])
  fields := #[]
  methods := #[]
  instanceTypes := #[]
  staticTypes := #[]
  resolved := Array.replicate 8 none
  statics := none }

/-- the primitive byte -/
def k5 : Class := { plain "byte" none with kind := .primitive 'B', accessFlags := 0x411 }
/-- [B -/
def k6 : Class := { plain "[B" (some 0) with kind := .array 5 .byte, interfaces := #[3, 4], accessFlags := 1041 }

/-- the primitive int -/
def k7 : Class := { plain "int" none with kind := .primitive 'I', accessFlags := 0x411 }
/-- [I -/
def k8 : Class := { plain "[I" (some 0) with kind := .array 7 .int, interfaces := #[3, 4], accessFlags := 1041 }

def heap : Heap := #[]
def classes : Array Class := #[k0, k1, k2, k3, k4, k5, k6, k7, k8]
def interned : List (Array UInt16 × Addr) := []
def slotsUsed : Nat := 0
def theMethod : MethodId := ⟨1, 1⟩
def args0 : Array Value := #[.int 5, .int 1]
def aboutOver (below : List Frame) : State where
  vm := { classes := classes, interned := interned.toArray }
  heap := heap
  slotsUsed := slotsUsed
  threads := #[{ frames := .invoking theMethod args0 :: below }]
def below0 : List Frame := [.native { method := ⟨0, 0⟩, args := #[] }]
def about1 : State := aboutOver below0
def p0 : Program := .bare "" "" ""
def e0 : Env := launch0.env 0 0 0
theorem w_frames : about1.frames = Frame.invoking theMethod args0 :: below0 := rfl
set_option maxRecDepth 65536 in
theorem w_args : argsFit about1.vm theMethod args0 = true := by decide +kernel
set_option maxRecDepth 65536 in
theorem w_heap : heapFits about1 = true := by decide +kernel
set_option maxRecDepth 65536 in
theorem w_runnable : about1.curStatus? = some .runnable := by decide +kernel
set_option maxRecDepth 65536 in
theorem w_alone : about1.alone = true := by decide +kernel
set_option maxRecDepth 65536 in
theorem w_named : about1.methodNamed? x = some theMethod := by decide +kernel
set_option maxRecDepth 65536 in
theorem w_hears : about1.hears theMethod below0 = true := by decide +kernel
set_option maxRecDepth 65536 in
theorem w_ripe : about1.ripe theMethod args0 below0 = true := by decide +kernel
theorem w_running : about1.status = .running := rfl
set_option maxRecDepth 65536 in
theorem w_room : about1.hasRoom e0.platform room_1 = true :=
  launch0.hasRoom_least _ room_1 (by decide +kernel) (by decide +kernel) (by decide +kernel) (by decide +kernel) (by decide +kernel) (by decide +kernel)
theorem allAtoms_all (ts : List Jvm.Cond) (a : Array Jvm.Value) (st : Jvm.State) : (allAtoms ts).before a st = ts.all (fun c => c.before a st) := by
  induction ts with
  | nil => rfl
  | cons c t ih =>
    show (Jvm.Cond.and c (allAtoms t)).before a st = _
    rw [Jvm.Cond.before_and, ih, List.all_cons]
def words1 : List Jvm.Cond := Jvm.Cond.code x code maxLocals ret :: tables_1
/-- a 'code' word, met by the world's own term for the bytes: nothing is compared byte by byte -/
theorem code_word {y : MethodName} {bytes : ByteArray} {mx : Nat} {rt : Option FieldType} {a : Array Value} {s : State} {m : MethodId} {meth : Method} {c : Code} (h1 : s.methodNamed? y = some m) (h2 : s.vm.method? m = some meth) (h3 : meth.code = some c) (h4 : c.code = bytes)
    (h5 : (c.maxLocals == mx && c.exceptionTable.isEmpty && decide (c.maxStack ≤ mostOperands) && decide (meth.sig.returnType = rt) && !meth.locks && decide (parseMethodDescriptor y.desc = some meth.sig)) = true) : (Jvm.Cond.code y bytes mx rt).before a s = true := by
  simp only [Bool.and_eq_true, beq_iff_eq, Bool.not_eq_true', decide_eq_true_eq] at h5
  obtain ⟨⟨⟨⟨⟨g1, g2⟩, g3⟩, g4⟩, g5⟩, g6⟩ := h5
  simp [Cond.before, Cond.holds, Cond.value, h1, h2, h3, h4, g1, g2, g3, g4, g5, g6]
def isCode : Jvm.Cond → Bool
  | .code _ _ _ _ => true
  | _ => false
theorem all_split {L : List Jvm.Cond} {P : Jvm.Cond → Bool} (h1 : L.all (fun c => isCode c || P c) = true) (h2 : ∀ c ∈ L.filter isCode, P c = true) : L.all P = true := by
  refine List.all_eq_true.mpr fun c hc => ?_
  have h := List.all_eq_true.mp h1 c hc
  rcases Bool.eq_false_or_eq_true (isCode c) with hi | hi
  · exact h2 c (List.mem_filter.mpr ⟨hc, hi⟩)
  · simpa [hi] using h
set_option maxRecDepth 65536 in
theorem w_c0 : (Jvm.Cond.code x code maxLocals ret).before args0 about1 = true := code_word (m := ⟨1, 1⟩) (meth := k1m1) (c := k1c1) (by decide +kernel) rfl rfl rfl (by decide +kernel)
set_option maxRecDepth 65536 in
theorem w_c1 : (Jvm.Cond.code ({ cls := "com/example/samewire/samewire/Nesting", name := "<init>", desc := "(I)V" } : Jvm.MethodName) prog_26_method_1_code (2 : Nat) (Option.none : Option Jvm.ClassFile.FieldType)).before args0 about1 = true := code_word (m := ⟨2, 0⟩) (meth := k2m0) (c := k2c0) (by decide +kernel) rfl rfl rfl (by decide +kernel)
set_option maxRecDepth 65536 in
theorem w_c2 : (Jvm.Cond.code ({ cls := "java/lang/Object", name := "<init>", desc := "()V" } : Jvm.MethodName) object_method_1_code (1 : Nat) (Option.none : Option Jvm.ClassFile.FieldType)).before args0 about1 = true := code_word (m := ⟨0, 0⟩) (meth := k0m0) (c := k0c0) (by decide +kernel) rfl rfl rfl (by decide +kernel)
set_option maxRecDepth 65536 in
theorem w_c3 : (Jvm.Cond.code ({ cls := "com/example/samewire/samewire/NestingOpenPinLaw", name := "step", desc := "(Lcom/example/samewire/samewire/Nesting;[IIII)V" } : Jvm.MethodName) method_3_code (8 : Nat) (Option.none : Option Jvm.ClassFile.FieldType)).before args0 about1 = true := code_word (m := ⟨1, 2⟩) (meth := k1m2) (c := k1c2) (by decide +kernel) rfl rfl rfl (by decide +kernel)
set_option maxRecDepth 65536 in
theorem w_c4 : (Jvm.Cond.code ({ cls := "com/example/samewire/samewire/Nesting", name := "close", desc := "()V" } : Jvm.MethodName) prog_26_method_3_code (1 : Nat) (Option.none : Option Jvm.ClassFile.FieldType)).before args0 about1 = true := code_word (m := ⟨2, 2⟩) (meth := k2m2) (c := k2c2) (by decide +kernel) rfl rfl rfl (by decide +kernel)
set_option maxRecDepth 65536 in
theorem w_c5 : (Jvm.Cond.code ({ cls := "com/example/samewire/samewire/Nesting", name := "open", desc := "()Z" } : Jvm.MethodName) prog_26_method_2_code (1 : Nat) (Option.some Jvm.ClassFile.FieldType.boolean)).before args0 about1 = true := code_word (m := ⟨2, 1⟩) (meth := k2m1) (c := k2c1) (by decide +kernel) rfl rfl rfl (by decide +kernel)
def codes1 : List Jvm.Cond := [Jvm.Cond.code x code maxLocals ret, Jvm.Cond.code ({ cls := "com/example/samewire/samewire/Nesting", name := "<init>", desc := "(I)V" } : Jvm.MethodName) prog_26_method_1_code (2 : Nat) (Option.none : Option Jvm.ClassFile.FieldType), Jvm.Cond.code ({ cls := "java/lang/Object", name := "<init>", desc := "()V" } : Jvm.MethodName) object_method_1_code (1 : Nat) (Option.none : Option Jvm.ClassFile.FieldType), Jvm.Cond.code ({ cls := "com/example/samewire/samewire/NestingOpenPinLaw", name := "step", desc := "(Lcom/example/samewire/samewire/Nesting;[IIII)V" } : Jvm.MethodName) method_3_code (8 : Nat) (Option.none : Option Jvm.ClassFile.FieldType), Jvm.Cond.code ({ cls := "com/example/samewire/samewire/Nesting", name := "close", desc := "()V" } : Jvm.MethodName) prog_26_method_3_code (1 : Nat) (Option.none : Option Jvm.ClassFile.FieldType), Jvm.Cond.code ({ cls := "com/example/samewire/samewire/Nesting", name := "open", desc := "()Z" } : Jvm.MethodName) prog_26_method_2_code (1 : Nat) (Option.some Jvm.ClassFile.FieldType.boolean)]
set_option maxRecDepth 65536 in
theorem codes_eq : words1.filter isCode = codes1 := rfl
theorem w_codes : ∀ c ∈ words1.filter isCode, c.before args0 about1 = true := by
  rw [codes_eq]
  intro c hc
  simp only [codes1, List.mem_cons, List.not_mem_nil, or_false] at hc
  rcases hc with rfl | rfl | rfl | rfl | rfl | rfl
  · exact w_c0
  · exact w_c1
  · exact w_c2
  · exact w_c3
  · exact w_c4
  · exact w_c5
set_option maxRecDepth 65536 in
theorem w_t1 : (words1.take 24).all (fun c => isCode c || c.before args0 about1) = true := by decide +kernel
set_option maxRecDepth 65536 in
theorem w_t2 : (words1.drop 24).all (fun c => isCode c || c.before args0 about1) = true := by decide +kernel
theorem w_tables : (allAtoms (Jvm.Cond.code x code maxLocals ret :: tables_1)).before args0 about1 = true := by
  rw [allAtoms_all]
  show words1.all (fun c => c.before args0 about1) = true
  refine all_split ?_ w_codes
  rw [← List.take_append_drop 24 words1, List.all_append, w_t1, w_t2]
  rfl
set_option maxRecDepth 65536 in
theorem w_case : (Jvm.Cond.and given_1 narrow_1).before args0 about1 = true := by decide +kernel
theorem w_applies : (headSpec (Jvm.Cond.code x code maxLocals ret :: tables_1) room_1).applies x e0.platform about1 = true :=
  (Spec.applies_iff w_frames).mpr ⟨w_running, w_runnable, w_alone, w_named, w_hears, w_ripe, w_room, w_tables⟩
theorem atStart : AtStart classFile x code maxLocals ret World_1 tables_1 room_1 Calls_1 rest_1 Pre_1 launch0 p0 e0 about1 theMethod args0 below0 :=
  ⟨lists_1, trivial, launch0.admits_env _ _ _, launch0.least_env, fairChoices_fair.cas, fairChoices_fair.clock, w_frames, w_args, w_heap, w_applies, trivial, trivial, w_case⟩
end start1
theorem witness_1 : WitnessClaimed_1 := ⟨start1.p0, start1.e0, start1.about1, start1.theMethod, start1.args0, start1.below0, start1.atStart⟩
end Jvm.Pilot.@@N@@
