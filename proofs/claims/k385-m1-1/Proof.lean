import JvmDerived
import JvmDerived.Pilot.@@N@@Statement
import JvmDerived.Pilot.@@N@@Code
set_option linter.unusedVariables false
set_option linter.unusedSimpArgs false
@@BLOCK:HandJ.lean.txt@@
@@BLOCK:HandW.lean.txt@@
@@BLOCK:HandBits.lean.txt@@
@@BLOCK:SymRun.lean.txt@@
@@BLOCK:RowBasics.lean.txt@@
@@BLOCK:Bridge.lean.txt@@
@@BLOCK:SymKit.lean.txt@@
@@BLOCK:Nums.lean.txt@@
@@BLOCK:NumsL.lean.txt@@
namespace Jvm.Pilot.@@N@@
open Jvm Jvm.ClassFile Sem Op Jvm.Sym Jvm.Pilot.@@N@@.Jvm.D
/-! own 1: which terms name a value of a known sort, whatever the arguments of these sorts are -/
theorem own_ok_int {v : Value} (h : VKind.ok .int v = true) : ∃ x, v = .int x := by cases v <;> simp [VKind.ok] at h <;> exact ⟨_, rfl⟩
theorem own_ok_long {v : Value} (h : VKind.ok .long v = true) : ∃ x, v = .long x := by cases v <;> simp [VKind.ok] at h <;> exact ⟨_, rfl⟩
def own_sort2 (o : Binary) (x y : Option VKind) : Option VKind :=
  match x, y with
  | some .int, some .int => match o with
    | .iand | .ior | .ixor | .ishl | .ishr | .iushr => some .int
    | _ => none
  | some .long, some .long => match o with
    | .ladd | .lsub | .lmul | .land | .lor | .lxor => some .long
    | .lcmp => some .int
    | _ => none
  | some .long, some .int => match o with
    | .lshl | .lshr | .lushr => some .long
    | _ => none
  | _, _ => none
theorem own_sort2_sound {o : Binary} {x y : Option VKind} {k : VKind} {v w : Value} (h : own_sort2 o x y = some k) (hx : ∀ k', x = some k' → k'.ok v = true) (hy : ∀ k', y = some k' → k'.ok w = true) :
    ∃ z, o.apply v w = some z ∧ k.ok z = true := by
  unfold own_sort2 at h
  split at h
  · obtain ⟨a, rfl⟩ := own_ok_int (hx _ rfl); obtain ⟨b, rfl⟩ := own_ok_int (hy _ rfl)
    split at h <;> first | (cases h; exact ⟨_, rfl, rfl⟩) | cases h
  · obtain ⟨a, rfl⟩ := own_ok_long (hx _ rfl); obtain ⟨b, rfl⟩ := own_ok_long (hy _ rfl)
    split at h <;> first | (cases h; exact ⟨_, rfl, rfl⟩) | cases h
  · obtain ⟨a, rfl⟩ := own_ok_long (hx _ rfl); obtain ⟨b, rfl⟩ := own_ok_int (hy _ rfl)
    split at h <;> first | (cases h; exact ⟨_, rfl, rfl⟩) | cases h
  · cases h
def own_sort1 (o : Unary) (x : Option VKind) : Option VKind :=
  match x with
  | some .int => match o with
    | .ineg | .i2b | .i2c | .i2s => some .int
    | .i2l => some .long
    | _ => none
  | some .long => match o with
    | .lneg => some .long
    | .l2i => some .int
    | _ => none
  | _ => none
theorem own_sort1_sound {o : Unary} {x : Option VKind} {k : VKind} {v : Value} (h : own_sort1 o x = some k) (hx : ∀ k', x = some k' → k'.ok v = true) : ∃ z, o.apply v = some z ∧ k.ok z = true := by
  unfold own_sort1 at h
  split at h
  · obtain ⟨a, rfl⟩ := own_ok_int (hx _ rfl)
    split at h <;> first | (cases h; exact ⟨_, rfl, rfl⟩) | cases h
  · obtain ⟨a, rfl⟩ := own_ok_long (hx _ rfl)
    split at h <;> first | (cases h; exact ⟨_, rfl, rfl⟩) | cases h
  · cases h
def own_lit : Term → Bool
  | .int v => v != 0
  | .long v => v != 0
  | _ => false
def own_sort (ks : List VKind) (N : List (Term × VKind)) (t : Term) : Option VKind :=
  match N.lookup t with
  | some k => some k
  | none => match t with
    | .arg i => ks[i]?
    | .int _ => some .int
    | .long _ => some .long
    | .null => some .ref
    | .add a b | .sub a b | .mul a b => if own_sort ks N a = some .int ∧ own_sort ks N b = some .int then some .int else none
    | .div a b | .rem a b => if own_sort ks N a = some .int ∧ own_sort ks N b = some .int ∧ own_lit b = true then some .int else none
    | .op2 o a b => if o = .ldiv ∨ o = .lrem then (if own_sort ks N a = some .long ∧ own_sort ks N b = some .long ∧ own_lit b = true then some .long else none) else own_sort2 o (own_sort ks N a) (own_sort ks N b)
    | .op1 o a => own_sort1 o (own_sort ks N a)
    | .old a => own_sort ks N a
    | _ => none
theorem own_lookup {t : Term} : ∀ {N : List (Term × VKind)} {k : VKind}, N.lookup t = some k → (t, k) ∈ N
  | [], _, h => by cases h
  | (j, d) :: L, k, h => by
    simp only [List.lookup] at h
    split at h
    · rename_i hij
      cases h
      rw [beq_iff_eq.mp hij]; exact List.mem_cons_self
    · exact List.mem_cons_of_mem _ (own_lookup h)
section
variable {ks : List VKind} {N : List (Term × VKind)} {args : Array Value} {s : State}
theorem own_sort_sound (hA : ∀ (i : Nat) (k : VKind), ks[i]? = some k → ∃ v, args[i]? = some v ∧ k.ok v = true) (hN : ∀ q ∈ N, ∃ v, q.1.eval args s none [] s = some v ∧ q.2.ok v = true) :
    ∀ (t : Term) (k : VKind), own_sort ks N t = some k → ∃ v, t.eval args s none [] s = some v ∧ k.ok v = true := by
  intro t
  induction t with
  | arg i =>
    intro k h; unfold own_sort at h; split at h
    · rename_i hl; cases h; exact hN _ (own_lookup hl)
    · exact hA i k h
  | int v | long v | null =>
    intro k h; unfold own_sort at h; split at h
    · rename_i hl; cases h; exact hN _ (own_lookup hl)
    · cases h; exact ⟨_, rfl, rfl⟩
  | add a b iha ihb | sub a b iha ihb | mul a b iha ihb =>
    intro k h; unfold own_sort at h; split at h
    · rename_i hl; cases h; exact hN _ (own_lookup hl)
    · dsimp only at h
      split at h
      · rename_i hc
        cases h
        obtain ⟨v, e1, o1⟩ := iha _ hc.1
        obtain ⟨w, e2, o2⟩ := ihb _ hc.2
        obtain ⟨x, rfl⟩ := own_ok_int o1
        obtain ⟨y, rfl⟩ := own_ok_int o2
        exact ⟨_, by simp only [Term.eval, e1, e2]; rfl, rfl⟩
      · cases h
  | div a b iha ihb =>
    intro k h; unfold own_sort at h; split at h
    · rename_i hl; cases h; exact hN _ (own_lookup hl)
    · dsimp only at h
      split at h
      · rename_i hc
        cases h
        obtain ⟨v, e1, o1⟩ := iha _ hc.1
        obtain ⟨x, rfl⟩ := own_ok_int o1
        obtain ⟨w, e2, o2⟩ := ihb _ hc.2.1
        obtain ⟨y, rfl⟩ := own_ok_int o2
        have hl := hc.2.2
        have hy : y ≠ 0 := by
          intro h0
          subst h0
          cases b <;> simp [own_lit] at hl
          · simp only [Term.eval, Option.some.injEq, Value.int.injEq] at e2; exact hl e2
          · simp [Term.eval] at e2
        exact ⟨.int (x / y), by simp [Term.eval, e1, e2, hy], rfl⟩
      · cases h
  | rem a b iha ihb =>
    intro k h; unfold own_sort at h; split at h
    · rename_i hl; cases h; exact hN _ (own_lookup hl)
    · dsimp only at h
      split at h
      · rename_i hc
        cases h
        obtain ⟨v, e1, o1⟩ := iha _ hc.1
        obtain ⟨x, rfl⟩ := own_ok_int o1
        obtain ⟨w, e2, o2⟩ := ihb _ hc.2.1
        obtain ⟨y, rfl⟩ := own_ok_int o2
        have hl := hc.2.2
        have hy : y ≠ 0 := by
          intro h0
          subst h0
          cases b <;> simp [own_lit] at hl
          · simp only [Term.eval, Option.some.injEq, Value.int.injEq] at e2; exact hl e2
          · simp [Term.eval] at e2
        exact ⟨.int (x % y), by simp [Term.eval, e1, e2, hy], rfl⟩
      · cases h
  | op2 o a b iha ihb =>
    intro k h; unfold own_sort at h; split at h
    · rename_i hl; cases h; exact hN _ (own_lookup hl)
    · dsimp only at h
      split at h
      · rename_i ho
        split at h
        · rename_i hc
          cases h
          obtain ⟨v, e1, o1⟩ := iha _ hc.1
          obtain ⟨x, rfl⟩ := own_ok_long o1
          have hl := hc.2.2
          obtain ⟨w, e2, o2⟩ := ihb _ hc.2.1
          obtain ⟨y, rfl⟩ := own_ok_long o2
          cases b <;> simp only [own_lit, bne_iff_ne, ne_eq, Bool.false_eq_true] at hl
          · simp [Term.eval] at e2
          · simp only [Term.eval, Option.some.injEq, Value.long.injEq] at e2
            subst e2
            rcases ho with rfl | rfl
            · exact ⟨_, by simp only [Term.eval, e1]; simp [Binary.apply, hl]; rfl, rfl⟩
            · exact ⟨_, by simp only [Term.eval, e1]; simp [Binary.apply, hl]; rfl, rfl⟩
        · cases h
      · cases ha : own_sort ks N a with
        | none => rw [ha] at h; simp [own_sort2] at h
        | some ka =>
          cases hb : own_sort ks N b with
          | none => rw [ha, hb] at h; cases ka <;> simp [own_sort2] at h
          | some kb =>
            obtain ⟨v, e1, o1⟩ := iha _ ha
            obtain ⟨w, e2, o2⟩ := ihb _ hb
            rw [ha, hb] at h
            obtain ⟨z, ez, oz⟩ := own_sort2_sound (v := v) (w := w) h (fun k' hk => by cases hk; exact o1) (fun k' hk => by cases hk; exact o2)
            exact ⟨z, by simp only [Term.eval, e1, e2]; exact ez, oz⟩
  | op1 o a iha =>
    intro k h; unfold own_sort at h; split at h
    · rename_i hl; cases h; exact hN _ (own_lookup hl)
    · dsimp only at h
      cases ha : own_sort ks N a with
      | none => rw [ha] at h; simp [own_sort1] at h
      | some ka =>
        obtain ⟨v, e1, o1⟩ := iha _ ha
        rw [ha] at h
        obtain ⟨z, ez, oz⟩ := own_sort1_sound (v := v) h (fun k' hk => by cases hk; exact o1)
        exact ⟨z, by simp only [Term.eval, e1]; exact ez, oz⟩
  | old a iha =>
    intro k h; unfold own_sort at h; split at h
    · rename_i hl; cases h; exact hN _ (own_lookup hl)
    · obtain ⟨v, e1, o1⟩ := iha _ h
      exact ⟨v, by simp only [Term.eval]; exact e1, o1⟩
  | _ =>
    intro k h; unfold own_sort at h; split at h
    · rename_i hl; cases h; exact hN _ (own_lookup hl)
    · cases h
end
/-! own 2: which conditions are worth something, which are surely true -/
def own_def (ks : List VKind) (N : List (Term × VKind)) : Cond → Bool
  | .tt => true
  | .eq a b => match own_sort ks N a, own_sort ks N b with
    | some .int, some .int => true
    | some .long, some .long => true
    | some .ref, some .ref => true
    | _, _ => false
  | .lt a b | .le a b => match own_sort ks N a, own_sort ks N b with
    | some .int, some .int => true
    | some .long, some .long => true
    | _, _ => false
  | .not c => own_def ks N c
  | .and a b | .or a b => own_def ks N a && own_def ks N b
  | _ => false
def own_sure (ks : List VKind) (N : List (Term × VKind)) (K : List Cond) (q : Cond) : Bool :=
  K.contains q || match q with
    | .tt => true
    | .isInt t => own_sort ks N t == some .int
    | .isLong t => own_sort ks N t == some .long
    | .isRef t => own_sort ks N t == some .ref
    | .and a b => own_sure ks N K a && own_sure ks N K b
    | .or a b => own_sure ks N K a || (own_def ks N a && own_sure ks N K b)
    | _ => false
section
variable {ks : List VKind} {N : List (Term × VKind)} {args : Array Value} {s : State} {K : List Cond}
theorem own_def_sound (hA : ∀ (i : Nat) (k : VKind), ks[i]? = some k → ∃ v, args[i]? = some v ∧ k.ok v = true) (hN : ∀ q ∈ N, ∃ v, q.1.eval args s none [] s = some v ∧ q.2.ok v = true) :
    ∀ q : Cond, own_def ks N q = true → ∃ b, q.value args s none s [] = some b := by
  intro q
  have hS := own_sort_sound hA hN
  induction q with
  | tt => intro _; exact ⟨true, rfl⟩
  | eq a b =>
    intro h
    simp only [own_def] at h
    split at h
    · rename_i h1 h2
      obtain ⟨v, e1, o1⟩ := hS _ _ h1; obtain ⟨w, e2, o2⟩ := hS _ _ h2
      obtain ⟨x, rfl⟩ := own_ok_int o1; obtain ⟨y, rfl⟩ := own_ok_int o2
      exact ⟨_, by simp only [Cond.value, e1, e2]; rfl⟩
    · rename_i h1 h2
      obtain ⟨v, e1, o1⟩ := hS _ _ h1; obtain ⟨w, e2, o2⟩ := hS _ _ h2
      obtain ⟨x, rfl⟩ := own_ok_long o1; obtain ⟨y, rfl⟩ := own_ok_long o2
      exact ⟨_, by simp only [Cond.value, e1, e2]; rfl⟩
    · rename_i h1 h2
      obtain ⟨v, e1, o1⟩ := hS _ _ h1; obtain ⟨w, e2, o2⟩ := hS _ _ h2
      cases v <;> simp [VKind.ok] at o1 <;> cases w <;> simp [VKind.ok] at o2 <;> exact ⟨_, by simp only [Cond.value, e1, e2]; rfl⟩
    · cases h
  | lt a b | le a b =>
    intro h
    simp only [own_def] at h
    split at h
    · rename_i h1 h2
      obtain ⟨v, e1, o1⟩ := hS _ _ h1; obtain ⟨w, e2, o2⟩ := hS _ _ h2
      obtain ⟨x, rfl⟩ := own_ok_int o1; obtain ⟨y, rfl⟩ := own_ok_int o2
      exact ⟨_, by simp only [Cond.value, e1, e2]; rfl⟩
    · rename_i h1 h2
      obtain ⟨v, e1, o1⟩ := hS _ _ h1; obtain ⟨w, e2, o2⟩ := hS _ _ h2
      obtain ⟨x, rfl⟩ := own_ok_long o1; obtain ⟨y, rfl⟩ := own_ok_long o2
      exact ⟨_, by simp only [Cond.value, e1, e2]; rfl⟩
    · cases h
  | not c ih =>
    intro h
    obtain ⟨b, hb⟩ := ih h
    exact ⟨!b, by simp [Cond.value, hb]⟩
  | and a b iha ihb | or a b iha ihb =>
    intro h
    simp only [own_def, Bool.and_eq_true] at h
    obtain ⟨x, hx⟩ := iha h.1
    obtain ⟨y, hy⟩ := ihb h.2
    cases x <;> simp [Cond.value, hx, hy]
  | _ => intro h; simp [own_def] at h
theorem own_sure_sound (hA : ∀ (i : Nat) (k : VKind), ks[i]? = some k → ∃ v, args[i]? = some v ∧ k.ok v = true) (hN : ∀ q ∈ N, ∃ v, q.1.eval args s none [] s = some v ∧ q.2.ok v = true) (hK : ∀ q ∈ K, q.value args s none s [] = some true) :
    ∀ q : Cond, own_sure ks N K q = true → q.value args s none s [] = some true := by
  intro q
  have hS := own_sort_sound hA hN
  induction q with
  | tt => intro _; rfl
  | isInt t =>
    intro h; unfold own_sure at h; rw [Bool.or_eq_true] at h
    rcases h with h | h
    · exact hK _ (List.contains_iff_mem.mp h)
    · obtain ⟨v, e1, o1⟩ := hS _ _ (beq_iff_eq.mp h)
      obtain ⟨x, rfl⟩ := own_ok_int o1
      simp [Cond.value, e1]
  | isLong t =>
    intro h; unfold own_sure at h; rw [Bool.or_eq_true] at h
    rcases h with h | h
    · exact hK _ (List.contains_iff_mem.mp h)
    · obtain ⟨v, e1, o1⟩ := hS _ _ (beq_iff_eq.mp h)
      obtain ⟨x, rfl⟩ := own_ok_long o1
      simp [Cond.value, e1]
  | isRef t =>
    intro h; unfold own_sure at h; rw [Bool.or_eq_true] at h
    rcases h with h | h
    · exact hK _ (List.contains_iff_mem.mp h)
    · obtain ⟨v, e1, o1⟩ := hS _ _ (beq_iff_eq.mp h)
      cases v <;> simp [VKind.ok] at o1 <;> simp [Cond.value, e1]
  | and a b iha ihb =>
    intro h; unfold own_sure at h; rw [Bool.or_eq_true] at h
    rcases h with h | h
    · exact hK _ (List.contains_iff_mem.mp h)
    · rw [Bool.and_eq_true] at h
      simp only [Cond.value, iha h.1, ihb h.2]
  | or a b iha ihb =>
    intro h; unfold own_sure at h; rw [Bool.or_eq_true] at h
    rcases h with h | h
    · exact hK _ (List.contains_iff_mem.mp h)
    · rw [Bool.or_eq_true, Bool.and_eq_true] at h
      rcases h with h | h
      · simp only [Cond.value, iha h]
      · obtain ⟨z, hz⟩ := own_def_sound hA hN a h.1
        cases z <;> simp only [Cond.value, hz, ihb h.2]
  | _ =>
    intro h; unfold own_sure at h; rw [Bool.or_eq_true] at h
    rcases h with h | h
    · exact hK _ (List.contains_iff_mem.mp h)
    · cases h
end
/-! own 3: arguments of these sorts -/
def own_fit : List VKind → List Value → Prop
  | [], [] => True
  | k :: ks, v :: L => k.ok v = true ∧ own_fit ks L
  | _, _ => False
theorem own_fit_int {ks : List VKind} {L : List Value} (h : own_fit (.int :: ks) L) : ∃ a L', L = .int a :: L' ∧ own_fit ks L' := by
  cases L with
  | nil => exact h.elim
  | cons v L => obtain ⟨x, rfl⟩ := own_ok_int h.1; exact ⟨x, L, rfl, h.2⟩
theorem own_fit_long {ks : List VKind} {L : List Value} (h : own_fit (.long :: ks) L) : ∃ a L', L = .long a :: L' ∧ own_fit ks L' := by
  cases L with
  | nil => exact h.elim
  | cons v L => obtain ⟨x, rfl⟩ := own_ok_long h.1; exact ⟨x, L, rfl, h.2⟩
theorem own_fit_nil {L : List Value} (h : own_fit [] L) : L = [] := by
  cases L with
  | nil => rfl
  | cons v L => exact h.elim
theorem own_fit_get : ∀ {ks : List VKind} {L : List Value}, own_fit ks L → ∀ (i : Nat) (k : VKind), ks[i]? = some k → ∃ v, L[i]? = some v ∧ k.ok v = true
  | [], _, _, i, k, hk => by simp at hk
  | _ :: _, [], h, _, _, _ => h.elim
  | k0 :: ks, v :: L, h, 0, k, hk => ⟨v, rfl, by simp at hk; subst hk; exact h.1⟩
  | k0 :: ks, v :: L, h, i + 1, k, hk => by
    obtain ⟨w, e, o⟩ := own_fit_get h.2 i k (by simpa using hk)
    exact ⟨w, by simpa using e, o⟩
theorem own_fit_of : ∀ (ks : List VKind) (j : Nat) (P L : List Value) (s : State), P.length = j → L.length = ks.length → (∀ q ∈ sorts j ks, q.before (P ++ L).toArray s = true) → own_fit ks L
  | [], j, P, L, s, _, hL, _ => by cases L with
    | nil => exact trivial
    | cons v L => simp at hL
  | k :: ks, j, P, [], s, _, hL, _ => by simp at hL
  | k :: ks, j, P, v :: L, s, hP, hL, h => by
    obtain ⟨w, e, o⟩ := isK_spec (h (isK k (.arg j)) (by simp [sorts]))
    have e' : w = v := by
      simp only [Term.eval] at e
      subst hP
      simpa using e.symm
    subst e'
    refine ⟨o, own_fit_of ks (j + 1) (P ++ [w]) L s (by simp [hP]) (by simpa using hL) fun q hq => ?_⟩
    have := h q (by simp [sorts, hq])
    simpa using this
theorem own_fit_args {ks : List VKind} {args : Array Value} {s : State} (hc : args.size = ks.length) (h : ∀ q ∈ sorts 0 ks, q.before args s = true) : own_fit ks args.toList :=
  own_fit_of ks 0 [] args.toList s rfl (by simpa using hc) (by simpa using h)
/-! own 4: a callee's contract with a promise of one's own; the law's contract -/
theorem own_meets {l : Launch} {y : MethodName} {ycode : ByteArray} {mL : Nat} {rt : Option FieldType} {ks : List VKind} {I : Info} {n : Nat} {t0 : STree} {tabs needs : List Cond} {P : Cond} (N : List (Term × VKind))
    (hx : plainName y.cls = true) (hown : I.own = y.cls) (hr : I.ret = rt) (hw : walkTo I ycode [] n true (entry ks mL) = some (t0, tabs, needs)) (hp : Kit.pureVal t0 = true)
    (hN : ∀ L, own_fit ks L → ∀ s, ∀ q ∈ N, ∃ v, q.1.eval L.toArray s none [] s = some v ∧ q.2.ok v = true)
    (hn : needs.all (own_sure ks N (.code y ycode mL rt :: tabs)) = true)
    (hv : ∀ L, own_fit ks L → ∀ s, ∃ w, Kit.valueOf L.toArray s t0 = some w ∧ ∀ E, P.after L.toArray s (.returned (some w)) E = true)
    (hcalls : CallsOk l I mL I.room := by intro q hq; cases hq) : MeetsLoose l y (specOf y ycode mL rt ks P tabs [] I.room) := by
  refine loops_meets (I := I) (ks0 := ks) (cuts := []) hx hown hr rfl rfl rfl (fun args s h => conj_before h _ List.mem_cons_self) hw (fun _ => none) (fun _ _ _ _ _ => False) (fun _ _ _ => 0) (fun args s h => ?_) (fun args s _ h ks hks => by cases hks) hcalls
  have hpre := conj_before h
  have hcount : args.size = ks.length := by
    have := hpre (.count ks.length) (by simp)
    simpa [Cond.before, Cond.holds, Cond.value] using this
  have hs : ∀ q ∈ sorts 0 ks, q.before args s = true := fun q hq => hpre q (by simp [hq])
  have ht : ∀ q ∈ tabs, q.before args s = true := fun q hq => hpre q (by simp [hq])
  have hf := own_fit_args hcount hs
  have hA : ∀ (i : Nat) (k : VKind), ks[i]? = some k → ∃ v, args[i]? = some v ∧ k.ok v = true := fun i k hk => by
    obtain ⟨v, e, o⟩ := own_fit_get hf i k hk
    exact ⟨v, by simpa using e, o⟩
  have hK : ∀ q ∈ (Cond.code y ycode mL rt :: tabs), q.value args s none s [] = some true := fun q hq => by
    rcases List.mem_cons.mp hq with rfl | hq
    · exact value_of_before (hpre _ List.mem_cons_self)
    · exact value_of_before (ht q hq)
  obtain ⟨w, hw1, hw2⟩ := hv args.toList hf s
  refine ⟨hcount, hs, ht, fun q hq => before_of_value (own_sure_sound hA (fun q hq => hN args.toList hf s q hq) hK q (List.all_eq_true.mp hn q hq)), Kit.vc_of_value (w₀ := w) (fun E => ?_) t0 hp hw1⟩
  exact hw2 E
def own_post : Cond := .and limb_1_1 limb_1_2
theorem own_law {l : Launch} {ks : List VKind} {I : Info} {n : Nat} {t0 : STree} {tabs needs : List Cond} (N : List (Term × VKind))
    (hx : plainName x.cls = true) (hown : I.own = x.cls) (hr : I.ret = ret) (hw : walkTo I code [] n true (entry ks maxLocals) = some (t0, tabs, needs)) (hp : Kit.pureVal t0 = true)
    (hg : ((Cond.count ks.length :: sorts 0 ks).all fun q => (flatC (Cond.and .tt (.and given_1 narrow_1))).contains q) = true)
    (ht : (tabs.all fun q => (Cond.code x code maxLocals ret :: tables_1).contains q) = true)
    (hN : ∀ L, own_fit ks L → ∀ s, ∀ q ∈ N, ∃ v, q.1.eval L.toArray s none [] s = some v ∧ q.2.ok v = true)
    (hn : needs.all (own_sure ks N (Cond.code x code maxLocals ret :: tables_1)) = true)
    (hv : ∀ L, own_fit ks L → ∀ s, Kit.valueOf L.toArray s t0 = some (.int 1))
    (hcalls : CallsOk l I maxLocals room_1) : MeetsLoose l x (armSpec x code maxLocals ret tables_1 room_1 .tt (.and given_1 narrow_1) own_post frame_1_writes frame_1_arrays frame_1_statics) := by
  refine loops_meets (I := I) (ks0 := ks) (cuts := []) hx hown hr rfl rfl rfl (fun args s h => ?_) hw (fun _ => none) (fun _ _ _ _ _ => False) (fun _ _ _ => 0) (fun args s h => ?_) (fun args s _ h ks hks => by cases hks) hcalls
  · simp only [armSpec, allAtoms, List.foldr_cons, Cond.before_and, Bool.and_eq_true] at h; exact h.1.1
  · have hts : (allAtoms (Cond.code x code maxLocals ret :: tables_1)).before args s = true := by simp only [armSpec, Cond.before_and, Bool.and_eq_true] at h; exact h.1
    have hK0 : (Cond.and .tt (.and given_1 narrow_1)).before args s = true := by simp only [armSpec, Cond.before_and, Bool.and_eq_true] at h ⊢; exact h.2
    have hfl := flat_of_before _ hK0
    have hg' := List.all_eq_true.mp hg
    have hcount : args.size = ks.length := by
      have := hfl _ (List.contains_iff_mem.mp (hg' (.count ks.length) List.mem_cons_self))
      simpa [Cond.before, Cond.holds, Cond.value] using this
    have hs : ∀ q ∈ sorts 0 ks, q.before args s = true := fun q hq => hfl _ (List.contains_iff_mem.mp (hg' q (List.mem_cons_of_mem _ hq)))
    have hf := own_fit_args hcount hs
    have hA : ∀ (i : Nat) (k : VKind), ks[i]? = some k → ∃ v, args[i]? = some v ∧ k.ok v = true := fun i k hk => by
      obtain ⟨v, e, o⟩ := own_fit_get hf i k hk
      exact ⟨v, by simpa using e, o⟩
    refine ⟨hcount, hs, tabs_of_sub hts ht, fun q hq => before_of_value (own_sure_sound hA (fun q hq => hN args.toList hf s q hq) (fun q hq => value_of_before (atoms_spec hts q hq)) q (List.all_eq_true.mp hn q hq)), Kit.vc_of_value (w₀ := .int 1) (fun E => ?_) t0 hp (hv args.toList hf s)⟩
    simp [armSpec, own_post, limb_1_1, limb_1_2, Cond.after, Cond.holds, Cond.value, Term.eval]
theorem own_join {α β γ : Type} {w : Option (α × β × γ)} {t : α} (h : w.isSome = true) (ht : (w.get h).1 = t) : w = some (t, (w.get h).2.1, (w.get h).2.2) := by subst ht; exact (Option.some_get h).symm
/-! own 5: a fork by plain numbers -/
theorem own_fork {A : Array Value} {s : State} {G : Cond} {p : Prop} [Decidable p] (h : G.value A s none s [] = some (decide p)) (a b : STree) : Kit.valueOf A s (.fork G a b) = if p then Kit.valueOf A s a else Kit.valueOf A s b := by
  simp only [Kit.valueOf, h]
  by_cases hp : p
  · rw [decide_eq_true hp, if_pos hp]
  · rw [decide_eq_false hp, if_neg hp]
theorem own_ret {A : Array Value} {s : State} {t : Term} {k : VKind} {v : Value} (h : t.eval A s none [] s = some v) : Kit.valueOf A s (.ret (some ⟨t, k⟩) []) = some v := h
section
variable {A : Array Value} {f s : State} {o : Option Outcome} {idx : List Nat} {a b : Term}
theorem own_lt_i {x y : Int32} {X Y : Int} (ha : a.eval A f o idx s = some (.int x)) (hb : b.eval A f o idx s = some (.int y)) (hX : x.toInt = X) (hY : y.toInt = Y) : (Cond.lt a b).value A f o s idx = some (decide (X < Y)) := by
  subst hX hY
  simp only [Cond.value, ha, hb]; exact congrArg some (decide_eq_decide.mpr Int32.lt_iff_toInt_lt)
theorem own_lt_l {x y : Int64} {X Y : Int} (ha : a.eval A f o idx s = some (.long x)) (hb : b.eval A f o idx s = some (.long y)) (hX : x.toInt = X) (hY : y.toInt = Y) : (Cond.lt a b).value A f o s idx = some (decide (X < Y)) := by
  subst hX hY
  simp only [Cond.value, ha, hb]; exact congrArg some (decide_eq_decide.mpr Int64.lt_iff_toInt_lt)
theorem own_le_i {x y : Int32} {X Y : Int} (ha : a.eval A f o idx s = some (.int x)) (hb : b.eval A f o idx s = some (.int y)) (hX : x.toInt = X) (hY : y.toInt = Y) : (Cond.le a b).value A f o s idx = some (decide (X ≤ Y)) := by
  subst hX hY
  simp only [Cond.value, ha, hb]; exact congrArg some (decide_eq_decide.mpr Int32.le_iff_toInt_le)
theorem own_le_l {x y : Int64} {X Y : Int} (ha : a.eval A f o idx s = some (.long x)) (hb : b.eval A f o idx s = some (.long y)) (hX : x.toInt = X) (hY : y.toInt = Y) : (Cond.le a b).value A f o s idx = some (decide (X ≤ Y)) := by
  subst hX hY
  simp only [Cond.value, ha, hb]; exact congrArg some (decide_eq_decide.mpr Int64.le_iff_toInt_le)
theorem own_eq_i {x y : Int32} {X Y : Int} (ha : a.eval A f o idx s = some (.int x)) (hb : b.eval A f o idx s = some (.int y)) (hX : x.toInt = X) (hY : y.toInt = Y) : (Cond.eq a b).value A f o s idx = some (decide (X = Y)) := by
  subst hX hY
  simp only [Cond.value, ha, hb]; exact congrArg some (decide_eq_decide.mpr Int32.toInt_inj.symm)
theorem own_not {c : Cond} {p : Prop} [Decidable p] (h : c.value A f o s idx = some (decide p)) : (Cond.not c).value A f o s idx = some (decide (¬ p)) := by
  simp only [Cond.value, h, Option.map_some]; exact congrArg some (by simp)
theorem own_and {c d : Cond} {p q : Prop} [Decidable p] [Decidable q] (h : c.value A f o s idx = some (decide p)) (h' : d.value A f o s idx = some (decide q)) : (Cond.and c d).value A f o s idx = some (decide (p ∧ q)) := by
  by_cases hp : p <;> by_cases hq : q <;> simp [Cond.value, h, h', hp, hq]
theorem own_or {c d : Cond} {p q : Prop} [Decidable p] [Decidable q] (h : c.value A f o s idx = some (decide p)) (h' : d.value A f o s idx = some (decide q)) : (Cond.or c d).value A f o s idx = some (decide (p ∨ q)) := by
  by_cases hp : p <;> by_cases hq : q <;> simp [Cond.value, h, h', hp, hq]
theorem own_lcv {x y : Int64} (ha : a.eval A f o idx f = some (.long x)) (hb : b.eval A f o idx f = some (.long y)) : (Term.old (.op2 .lcmp a b)).eval A f o idx s = some (.int (Kit.lcmp x y)) := by
  simp only [Term.eval, ha, hb]; rfl
theorem own_lc_lt {x y : Int64} {X Y : Int} (ha : a.eval A f o idx f = some (.long x)) (hb : b.eval A f o idx f = some (.long y)) (hX : x.toInt = X) (hY : y.toInt = Y) : (Cond.lt (.old (.op2 .lcmp a b)) (.int 0)).value A f o s idx = some (decide (X < Y)) := by
  subst hX hY
  rw [Cond.lt_ints (own_lcv ha hb) rfl, Kit.lcmp_neg]; exact congrArg some (decide_eq_decide.mpr Int64.lt_iff_toInt_lt)
theorem own_lc_le {x y : Int64} {X Y : Int} (ha : a.eval A f o idx f = some (.long x)) (hb : b.eval A f o idx f = some (.long y)) (hX : x.toInt = X) (hY : y.toInt = Y) : (Cond.le (.old (.op2 .lcmp a b)) (.int 0)).value A f o s idx = some (decide (X ≤ Y)) := by
  subst hX hY
  rw [Cond.le_ints (own_lcv ha hb) rfl, Kit.lcmp_nonpos]; exact congrArg some (decide_eq_decide.mpr Int64.le_iff_toInt_le)
theorem own_lc_eq {x y : Int64} {X Y : Int} (ha : a.eval A f o idx f = some (.long x)) (hb : b.eval A f o idx f = some (.long y)) (hX : x.toInt = X) (hY : y.toInt = Y) : (Cond.eq (.old (.op2 .lcmp a b)) (.int 0)).value A f o s idx = some (decide (X = Y)) := by
  subst hX hY
  rw [Cond.eq_ints (own_lcv ha hb) rfl, Kit.lcmp_zero]; exact congrArg some (decide_eq_decide.mpr Int64.toInt_inj.symm)
theorem own_lc_lt2 {x y : Int64} {X Y : Int} (ha : a.eval A f o idx f = some (.long x)) (hb : b.eval A f o idx f = some (.long y)) (hX : x.toInt = X) (hY : y.toInt = Y) : (Cond.lt (.int 0) (.old (.op2 .lcmp a b))).value A f o s idx = some (decide (Y < X)) := by
  subst hX hY
  rw [Cond.lt_ints rfl (own_lcv ha hb), Kit.lcmp_pos]; exact congrArg some (decide_eq_decide.mpr Int64.lt_iff_toInt_lt)
theorem own_lc_le2 {x y : Int64} {X Y : Int} (ha : a.eval A f o idx f = some (.long x)) (hb : b.eval A f o idx f = some (.long y)) (hX : x.toInt = X) (hY : y.toInt = Y) : (Cond.le (.int 0) (.old (.op2 .lcmp a b))).value A f o s idx = some (decide (Y ≤ X)) := by
  subst hX hY
  rw [Cond.le_ints rfl (own_lcv ha hb), Kit.lcmp_nonneg]; exact congrArg some (decide_eq_decide.mpr Int64.le_iff_toInt_le)
theorem own_P_fork {E : State} {w : Option Value} {G X Y : Cond} {p : Prop} [Decidable p] (hG : G.value A f (some (.returned w)) E [] = some (decide p)) (hX : p → X.after A f (.returned w) E = true) (hY : ¬ p → Y.after A f (.returned w) E = true) :
    (Cond.or (.and G X) (.and (.not G) Y)).after A f (.returned w) E = true := by
  by_cases hp : p
  · have h := hX hp
    simp only [Cond.after, Cond.holds, beq_iff_eq] at h
    simp [Cond.after, Cond.holds, Cond.value, hG, hp, h]
  · have h := hY hp
    simp only [Cond.after, Cond.holds, beq_iff_eq] at h
    simp [Cond.after, Cond.holds, Cond.value, hG, hp, h]
theorem own_P_int {E : State} {t : Term} {z : Int32} (h : t.eval A f (some (.returned (some (.int z)))) [] f = some (.int z)) : (Cond.and .returned (.eq .result (.old t))).after A f (.returned (some (.int z))) E = true := by
  simp [Cond.after, Cond.holds, Cond.value, Term.eval, h]
theorem own_P_long {E : State} {t : Term} {z : Int64} (h : t.eval A f (some (.returned (some (.long z)))) [] f = some (.long z)) : (Cond.and .returned (.eq .result (.old t))).after A f (.returned (some (.long z))) E = true := by
  simp [Cond.after, Cond.holds, Cond.value, Term.eval, h]
end
end Jvm.Pilot.@@N@@
namespace Jvm.Pilot.@@N@@
open Jvm Jvm.ClassFile Sem Op Jvm.Sym Jvm.Pilot.@@N@@.Jvm.D
def own_hea : MethodName := ⟨"com/example/terse_broker/tersebroker/websocket/Frames", "headSize", "(I)I"⟩
def own_heaI : Info := { own := "com/example/terse_broker/tersebroker/websocket/Frames", ret := some .int, maxLocals := 4, room := {} }
def own_heaw := walkTo own_heaI prog_115_method_2_code [] 400 true (entry [.int] 4)
theorem own_heasome : own_heaw.isSome = true := by decide +kernel
def own_heaP : Cond := (.or (.and (.eq (.old (.op2 .iand (.arg 0) (.int 127))) (.int 126)) (.or (.and (.eq (.old (.op2 .iand (.arg 0) (.int 128))) (.int 0)) (.and .returned (.eq .result (.old (.int 4))))) (.and (.not (.eq (.old (.op2 .iand (.arg 0) (.int 128))) (.int 0))) (.and .returned (.eq .result (.old (.int 8))))))) (.and (.not (.eq (.old (.op2 .iand (.arg 0) (.int 127))) (.int 126))) (.or (.and (.eq (.old (.op2 .iand (.arg 0) (.int 127))) (.int 127)) (.or (.and (.eq (.old (.op2 .iand (.arg 0) (.int 128))) (.int 0)) (.and .returned (.eq .result (.old (.int 10))))) (.and (.not (.eq (.old (.op2 .iand (.arg 0) (.int 128))) (.int 0))) (.and .returned (.eq .result (.old (.int 14))))))) (.and (.not (.eq (.old (.op2 .iand (.arg 0) (.int 127))) (.int 127))) (.or (.and (.eq (.old (.op2 .iand (.arg 0) (.int 128))) (.int 0)) (.and .returned (.eq .result (.old (.int 2))))) (.and (.not (.eq (.old (.op2 .iand (.arg 0) (.int 128))) (.int 0))) (.and .returned (.eq .result (.old (.int 6))))))))))
def own_heaS : Spec := specOf own_hea prog_115_method_2_code 4 (some .int) [.int] own_heaP (own_heaw.get own_heasome).2.1 [] own_heaI.room
def own_heac : Callee := { y := own_hea, S := own_heaS, bytes := prog_115_method_2_code, maxL := 4, ret := some .int, static := true, params := 1, res := some .int }
theorem own_heaok (l : Launch) : CallsOk l own_heaI 4 own_heaI.room := fun q hq => by
  cases hq
def own_heaT1 : Term := (.add (.int 2) (.int 0))
def own_heaT2 : Term := (.add (.int 2) (.int 8))
def own_heaT3 : Term := (.add (.int 2) (.int 2))
def own_heaT4 : Term := (.op2 .iand (.arg 0) (.int 127))
def own_heaT5 : Term := (.op2 .iand (.arg 0) (.int 128))
def own_heaT6 : Term := (.add own_heaT1 (.int 0))
def own_heaT7 : Term := (.add own_heaT1 (.int 4))
def own_heaT8 : Term := (.add own_heaT2 (.int 0))
def own_heaT9 : Term := (.add own_heaT2 (.int 4))
def own_heaT10 : Term := (.add own_heaT3 (.int 0))
def own_heaT11 : Term := (.add own_heaT3 (.int 4))
def own_heaG1 : Cond := (.not (.eq (.old own_heaT4) (.old (.int 126))))
def own_heaG2 : Cond := (.not (.eq (.old own_heaT4) (.old (.int 127))))
def own_heaG3 : Cond := (.eq (.old own_heaT5) (.int 0))
def own_heaG4 : Cond := (.eq (.old (.int 0)) (.int 0))
def own_heaG5 : Cond := (.eq (.old (.int 1)) (.int 0))
def own_heaR1 : STree := .ret (some ⟨own_heaT6, .int⟩) []
def own_heaR2 : STree := .ret (some ⟨own_heaT7, .int⟩) []
def own_heaR3 : STree := .ret (some ⟨own_heaT8, .int⟩) []
def own_heaR4 : STree := .ret (some ⟨own_heaT9, .int⟩) []
def own_heaR5 : STree := .ret (some ⟨own_heaT10, .int⟩) []
def own_heaR6 : STree := .ret (some ⟨own_heaT11, .int⟩) []
def own_heaN1 : STree := .fork own_heaG4 own_heaR1 own_heaR2
def own_heaN2 : STree := .fork own_heaG5 own_heaR1 own_heaR2
def own_heaN3 : STree := .fork own_heaG3 own_heaN1 own_heaN2
def own_heaN4 : STree := .fork own_heaG4 own_heaR3 own_heaR4
def own_heaN5 : STree := .fork own_heaG5 own_heaR3 own_heaR4
def own_heaN6 : STree := .fork own_heaG3 own_heaN4 own_heaN5
def own_heaN7 : STree := .fork own_heaG2 own_heaN3 own_heaN6
def own_heaN8 : STree := .fork own_heaG4 own_heaR5 own_heaR6
def own_heaN9 : STree := .fork own_heaG5 own_heaR5 own_heaR6
def own_heaN10 : STree := .fork own_heaG3 own_heaN8 own_heaN9
def own_heaN11 : STree := .fork own_heaG1 own_heaN7 own_heaN10
def own_heatree : STree := own_heaN11
theorem own_heag1 (p0 : Int32)  (s : State) (a b : STree) : Kit.valueOf #[.int p0] s (.fork own_heaG1 a b) = if ¬ ((p0 &&& (127 : Int32)).toInt = 126) then Kit.valueOf #[.int p0] s a else Kit.valueOf #[.int p0] s b := own_fork (p := ¬ ((p0 &&& (127 : Int32)).toInt = 126)) (own_not (own_eq_i (x := (p0 &&& (127 : Int32))) (y := (126 : Int32)) (X := (p0 &&& (127 : Int32)).toInt) (Y := 126) rfl rfl rfl (by decide))) a b
theorem own_heag2 (p0 : Int32)  (s : State) (a b : STree) : Kit.valueOf #[.int p0] s (.fork own_heaG2 a b) = if ¬ ((p0 &&& (127 : Int32)).toInt = 127) then Kit.valueOf #[.int p0] s a else Kit.valueOf #[.int p0] s b := own_fork (p := ¬ ((p0 &&& (127 : Int32)).toInt = 127)) (own_not (own_eq_i (x := (p0 &&& (127 : Int32))) (y := (127 : Int32)) (X := (p0 &&& (127 : Int32)).toInt) (Y := 127) rfl rfl rfl (by decide))) a b
theorem own_heag3 (p0 : Int32)  (s : State) (a b : STree) : Kit.valueOf #[.int p0] s (.fork own_heaG3 a b) = if (p0 &&& (128 : Int32)).toInt = 0 then Kit.valueOf #[.int p0] s a else Kit.valueOf #[.int p0] s b := own_fork (p := (p0 &&& (128 : Int32)).toInt = 0) (own_eq_i (x := (p0 &&& (128 : Int32))) (y := (0 : Int32)) (X := (p0 &&& (128 : Int32)).toInt) (Y := 0) rfl rfl rfl (by decide)) a b
theorem own_heag4 (p0 : Int32) (s : State) (a b : STree) : Kit.valueOf #[.int p0] s (.fork own_heaG4 a b) = Kit.valueOf #[.int p0] s a := (own_fork (p := 0 = 0) (own_eq_i (x := (0 : Int32)) (y := (0 : Int32)) (X := 0) (Y := 0) rfl rfl (by decide) (by decide)) a b).trans (if_pos (by decide))
theorem own_heag5 (p0 : Int32) (s : State) (a b : STree) : Kit.valueOf #[.int p0] s (.fork own_heaG5 a b) = Kit.valueOf #[.int p0] s b := (own_fork (p := 1 = 0) (own_eq_i (x := (1 : Int32)) (y := (0 : Int32)) (X := 1) (Y := 0) rfl rfl (by decide) (by decide)) a b).trans (if_neg (by decide))
theorem own_hear1 (p0 : Int32) (s : State) : Kit.valueOf #[.int p0] s own_heaR1 = some (.int (2)) := rfl
theorem own_hear2 (p0 : Int32) (s : State) : Kit.valueOf #[.int p0] s own_heaR2 = some (.int (6)) := rfl
theorem own_hear3 (p0 : Int32) (s : State) : Kit.valueOf #[.int p0] s own_heaR3 = some (.int (10)) := rfl
theorem own_hear4 (p0 : Int32) (s : State) : Kit.valueOf #[.int p0] s own_heaR4 = some (.int (14)) := rfl
theorem own_hear5 (p0 : Int32) (s : State) : Kit.valueOf #[.int p0] s own_heaR5 = some (.int (4)) := rfl
theorem own_hear6 (p0 : Int32) (s : State) : Kit.valueOf #[.int p0] s own_heaR6 = some (.int (8)) := rfl
theorem own_heatr : (own_heaw.get own_heasome).1 = own_heatree := by decide +kernel
theorem own_heawalk : walkTo own_heaI prog_115_method_2_code [] 400 true (entry [.int] 4) = some (own_heatree, (own_heaw.get own_heasome).2.1, (own_heaw.get own_heasome).2.2) := own_join own_heasome own_heatr
set_option maxRecDepth 65536 in
set_option maxHeartbeats 4000000 in
theorem own_heaval (L : List Value) (h : own_fit [.int] L) (s : State) : ∃ w, Kit.valueOf L.toArray s own_heatree = some w ∧ ∀ E, own_heaP.after L.toArray s (.returned (some w)) E = true := by
  obtain ⟨p0, L0, rfl, h1⟩ := own_fit_int h
  obtain rfl := own_fit_nil h1
  simp only [own_heatree, own_heaN1, own_heaN2, own_heaN3, own_heaN4, own_heaN5, own_heaN6, own_heaN7, own_heaN8, own_heaN9, own_heaN10, own_heaN11, own_heag1, own_heag2, own_heag3, own_heag4, own_heag5, own_hear1, own_hear2, own_hear3, own_hear4, own_hear5, own_hear6]
  by_cases ha : (p0 &&& 127).toInt = 126
  · by_cases hc : (p0 &&& 128).toInt = 0
    · exact ⟨.int 4, by simp [ha, hc], fun E => own_P_fork (own_eq_i (x := (p0 &&& 127)) (y := 126) (Y := 126) rfl rfl rfl (by decide)) (fun _ => own_P_fork (own_eq_i (x := (p0 &&& 128)) (y := 0) (Y := 0) rfl rfl rfl (by decide)) (fun _ => own_P_int rfl) (fun h => absurd ‹_› h)) (fun h => absurd ‹_› h)⟩
    · exact ⟨.int 8, by simp [ha, hc], fun E => own_P_fork (own_eq_i (x := (p0 &&& 127)) (y := 126) (Y := 126) rfl rfl rfl (by decide)) (fun _ => own_P_fork (own_eq_i (x := (p0 &&& 128)) (y := 0) (Y := 0) rfl rfl rfl (by decide)) (fun h => absurd h ‹_›) (fun _ => own_P_int rfl)) (fun h => absurd ‹_› h)⟩
  · by_cases hb : (p0 &&& 127).toInt = 127
    · by_cases hc : (p0 &&& 128).toInt = 0
      · exact ⟨.int 10, by simp [ha, hb, hc], fun E => own_P_fork (own_eq_i (x := (p0 &&& 127)) (y := 126) (Y := 126) rfl rfl rfl (by decide)) (fun h => absurd h ‹_›) (fun _ => own_P_fork (own_eq_i (x := (p0 &&& 127)) (y := 127) (Y := 127) rfl rfl rfl (by decide)) (fun _ => own_P_fork (own_eq_i (x := (p0 &&& 128)) (y := 0) (Y := 0) rfl rfl rfl (by decide)) (fun _ => own_P_int rfl) (fun h => absurd ‹_› h)) (fun h => absurd ‹_› h))⟩
      · exact ⟨.int 14, by simp [ha, hb, hc], fun E => own_P_fork (own_eq_i (x := (p0 &&& 127)) (y := 126) (Y := 126) rfl rfl rfl (by decide)) (fun h => absurd h ‹_›) (fun _ => own_P_fork (own_eq_i (x := (p0 &&& 127)) (y := 127) (Y := 127) rfl rfl rfl (by decide)) (fun _ => own_P_fork (own_eq_i (x := (p0 &&& 128)) (y := 0) (Y := 0) rfl rfl rfl (by decide)) (fun h => absurd h ‹_›) (fun _ => own_P_int rfl)) (fun h => absurd ‹_› h))⟩
    · by_cases hc : (p0 &&& 128).toInt = 0
      · exact ⟨.int 2, by simp [ha, hb, hc], fun E => own_P_fork (own_eq_i (x := (p0 &&& 127)) (y := 126) (Y := 126) rfl rfl rfl (by decide)) (fun h => absurd h ‹_›) (fun _ => own_P_fork (own_eq_i (x := (p0 &&& 127)) (y := 127) (Y := 127) rfl rfl rfl (by decide)) (fun h => absurd h ‹_›) (fun _ => own_P_fork (own_eq_i (x := (p0 &&& 128)) (y := 0) (Y := 0) rfl rfl rfl (by decide)) (fun _ => own_P_int rfl) (fun h => absurd ‹_› h)))⟩
      · exact ⟨.int 6, by simp [ha, hb, hc], fun E => own_P_fork (own_eq_i (x := (p0 &&& 127)) (y := 126) (Y := 126) rfl rfl rfl (by decide)) (fun h => absurd h ‹_›) (fun _ => own_P_fork (own_eq_i (x := (p0 &&& 127)) (y := 127) (Y := 127) rfl rfl rfl (by decide)) (fun h => absurd h ‹_›) (fun _ => own_P_fork (own_eq_i (x := (p0 &&& 128)) (y := 0) (Y := 0) rfl rfl rfl (by decide)) (fun h => absurd h ‹_›) (fun _ => own_P_int rfl)))⟩
theorem own_heameets (l : Launch) : MeetsLoose l own_hea own_heaS := own_meets (P := own_heaP) [] (by decide) rfl rfl own_heawalk (by decide +kernel) (fun _ _ _ q hq => by cases hq) (by decide +kernel) own_heaval (own_heaok l)
theorem own_heacold : own_heaS.Cold := Spec.cold_of_keeps (by decide +kernel)
def own_I : Info := { own := x.cls, ret := ret, calls := [(7, own_heac)], maxLocals := maxLocals, room := room_1 }
def own_w := walkTo own_I code [] 600 true (entry [.int] maxLocals)
theorem own_some : own_w.isSome = true := by decide +kernel
theorem own_ok (l : Launch) : CallsOk l own_I maxLocals room_1 := fun q hq => by
  simp only [own_I, List.mem_cons, List.not_mem_nil, or_false] at hq
  rcases hq with rfl
  · exact ⟨rfl, rfl, own_heameets l, own_heacold⟩
def own_T1 : Term := (.op2 .iand (.arg 0) (.int 128))
def own_T2 : Term := (.op2 .iand (.arg 0) (.int 127))
def own_T3 : Term := (.op2 .iand (.int 0) (.int 1))
def own_T4 : Term := (.op2 .iand (.int 1) (.int 1))
def own_G1 : Cond := (.eq (.old own_T1) (.int 0))
def own_G2 : Cond := (.not (.eq (.old own_T2) (.old (.int 127))))
def own_G3 : Cond := (.not (.eq (.old own_T2) (.old (.int 126))))
def own_G4 : Cond := (.eq (.old (.int 0)) (.int 0))
def own_G5 : Cond := (.eq (.old own_T2) (.int 126))
def own_G6 : Cond := (.not (.eq (.old (.int 4)) (.old (.int 2))))
def own_G7 : Cond := (.lt (.old (.int 14)) (.old (.int 4)))
def own_G8 : Cond := (.not (.eq (.old (.int 8)) (.old (.int 2))))
def own_G9 : Cond := (.lt (.old (.int 14)) (.old (.int 8)))
def own_G10 : Cond := (.eq (.old own_T2) (.int 127))
def own_G11 : Cond := (.not (.eq (.old (.int 10)) (.old (.int 2))))
def own_G12 : Cond := (.lt (.old (.int 14)) (.old (.int 10)))
def own_G13 : Cond := (.not (.eq (.old (.int 14)) (.old (.int 2))))
def own_G14 : Cond := (.lt (.old (.int 14)) (.old (.int 14)))
def own_G15 : Cond := (.not (.eq (.old (.int 2)) (.old (.int 2))))
def own_G16 : Cond := (.lt (.old (.int 14)) (.old (.int 2)))
def own_G17 : Cond := (.not (.eq (.old (.int 6)) (.old (.int 2))))
def own_G18 : Cond := (.lt (.old (.int 14)) (.old (.int 6)))
def own_G19 : Cond := (.not (.eq (.old (.int 4)) (.old (.int 6))))
def own_G20 : Cond := (.not (.eq (.old (.int 8)) (.old (.int 6))))
def own_G21 : Cond := (.not (.eq (.old (.int 10)) (.old (.int 6))))
def own_G22 : Cond := (.not (.eq (.old (.int 14)) (.old (.int 6))))
def own_G23 : Cond := (.not (.eq (.old (.int 2)) (.old (.int 6))))
def own_G24 : Cond := (.not (.eq (.old (.int 6)) (.old (.int 6))))
def own_G25 : Cond := (.not (.eq (.old (.int 4)) (.old (.int 4))))
def own_G26 : Cond := (.not (.eq (.old (.int 8)) (.old (.int 4))))
def own_G27 : Cond := (.not (.eq (.old (.int 10)) (.old (.int 4))))
def own_G28 : Cond := (.not (.eq (.old (.int 14)) (.old (.int 4))))
def own_G29 : Cond := (.not (.eq (.old (.int 2)) (.old (.int 4))))
def own_G30 : Cond := (.not (.eq (.old (.int 6)) (.old (.int 4))))
def own_G31 : Cond := (.not (.eq (.old (.int 4)) (.old (.int 8))))
def own_G32 : Cond := (.not (.eq (.old (.int 8)) (.old (.int 8))))
def own_G33 : Cond := (.not (.eq (.old (.int 10)) (.old (.int 8))))
def own_G34 : Cond := (.not (.eq (.old (.int 14)) (.old (.int 8))))
def own_G35 : Cond := (.not (.eq (.old (.int 2)) (.old (.int 8))))
def own_G36 : Cond := (.not (.eq (.old (.int 6)) (.old (.int 8))))
def own_G37 : Cond := (.not (.eq (.old (.int 4)) (.old (.int 10))))
def own_G38 : Cond := (.not (.eq (.old (.int 8)) (.old (.int 10))))
def own_G39 : Cond := (.not (.eq (.old (.int 10)) (.old (.int 10))))
def own_G40 : Cond := (.not (.eq (.old (.int 14)) (.old (.int 10))))
def own_G41 : Cond := (.not (.eq (.old (.int 2)) (.old (.int 10))))
def own_G42 : Cond := (.not (.eq (.old (.int 6)) (.old (.int 10))))
def own_G43 : Cond := (.not (.eq (.old (.int 4)) (.old (.int 14))))
def own_G44 : Cond := (.not (.eq (.old (.int 8)) (.old (.int 14))))
def own_G45 : Cond := (.not (.eq (.old (.int 10)) (.old (.int 14))))
def own_G46 : Cond := (.not (.eq (.old (.int 14)) (.old (.int 14))))
def own_G47 : Cond := (.not (.eq (.old (.int 2)) (.old (.int 14))))
def own_G48 : Cond := (.not (.eq (.old (.int 6)) (.old (.int 14))))
def own_G49 : Cond := (.eq (.old (.int 1)) (.int 0))
def own_R1 : STree := .ret (some ⟨own_T3, .int⟩) []
def own_R2 : STree := .ret (some ⟨own_T4, .int⟩) []
def own_N1 : STree := .fork own_G7 own_R1 own_R2
def own_N2 : STree := .fork own_G6 own_R1 own_N1
def own_N3 : STree := .fork own_G9 own_R1 own_R2
def own_N4 : STree := .fork own_G8 own_R1 own_N3
def own_N5 : STree := .fork own_G1 own_N2 own_N4
def own_N6 : STree := .fork own_G12 own_R1 own_R2
def own_N7 : STree := .fork own_G11 own_R1 own_N6
def own_N8 : STree := .fork own_G14 own_R1 own_R2
def own_N9 : STree := .fork own_G13 own_R1 own_N8
def own_N10 : STree := .fork own_G1 own_N7 own_N9
def own_N11 : STree := .fork own_G16 own_R1 own_R2
def own_N12 : STree := .fork own_G15 own_R1 own_N11
def own_N13 : STree := .fork own_G18 own_R1 own_R2
def own_N14 : STree := .fork own_G17 own_R1 own_N13
def own_N15 : STree := .fork own_G1 own_N12 own_N14
def own_N16 : STree := .fork own_G10 own_N10 own_N15
def own_N17 : STree := .fork own_G5 own_N5 own_N16
def own_N18 : STree := .fork own_G19 own_R1 own_N1
def own_N19 : STree := .fork own_G20 own_R1 own_N3
def own_N20 : STree := .fork own_G1 own_N18 own_N19
def own_N21 : STree := .fork own_G21 own_R1 own_N6
def own_N22 : STree := .fork own_G22 own_R1 own_N8
def own_N23 : STree := .fork own_G1 own_N21 own_N22
def own_N24 : STree := .fork own_G23 own_R1 own_N11
def own_N25 : STree := .fork own_G24 own_R1 own_N13
def own_N26 : STree := .fork own_G1 own_N24 own_N25
def own_N27 : STree := .fork own_G10 own_N23 own_N26
def own_N28 : STree := .fork own_G5 own_N20 own_N27
def own_N29 : STree := .fork own_G4 own_N17 own_N28
def own_N30 : STree := .fork own_G25 own_R1 own_N1
def own_N31 : STree := .fork own_G26 own_R1 own_N3
def own_N32 : STree := .fork own_G1 own_N30 own_N31
def own_N33 : STree := .fork own_G27 own_R1 own_N6
def own_N34 : STree := .fork own_G28 own_R1 own_N8
def own_N35 : STree := .fork own_G1 own_N33 own_N34
def own_N36 : STree := .fork own_G29 own_R1 own_N11
def own_N37 : STree := .fork own_G30 own_R1 own_N13
def own_N38 : STree := .fork own_G1 own_N36 own_N37
def own_N39 : STree := .fork own_G10 own_N35 own_N38
def own_N40 : STree := .fork own_G5 own_N32 own_N39
def own_N41 : STree := .fork own_G31 own_R1 own_N1
def own_N42 : STree := .fork own_G32 own_R1 own_N3
def own_N43 : STree := .fork own_G1 own_N41 own_N42
def own_N44 : STree := .fork own_G33 own_R1 own_N6
def own_N45 : STree := .fork own_G34 own_R1 own_N8
def own_N46 : STree := .fork own_G1 own_N44 own_N45
def own_N47 : STree := .fork own_G35 own_R1 own_N11
def own_N48 : STree := .fork own_G36 own_R1 own_N13
def own_N49 : STree := .fork own_G1 own_N47 own_N48
def own_N50 : STree := .fork own_G10 own_N46 own_N49
def own_N51 : STree := .fork own_G5 own_N43 own_N50
def own_N52 : STree := .fork own_G4 own_N40 own_N51
def own_N53 : STree := .fork own_G3 own_N29 own_N52
def own_N54 : STree := .fork own_G37 own_R1 own_N1
def own_N55 : STree := .fork own_G38 own_R1 own_N3
def own_N56 : STree := .fork own_G1 own_N54 own_N55
def own_N57 : STree := .fork own_G39 own_R1 own_N6
def own_N58 : STree := .fork own_G40 own_R1 own_N8
def own_N59 : STree := .fork own_G1 own_N57 own_N58
def own_N60 : STree := .fork own_G41 own_R1 own_N11
def own_N61 : STree := .fork own_G42 own_R1 own_N13
def own_N62 : STree := .fork own_G1 own_N60 own_N61
def own_N63 : STree := .fork own_G10 own_N59 own_N62
def own_N64 : STree := .fork own_G5 own_N56 own_N63
def own_N65 : STree := .fork own_G43 own_R1 own_N1
def own_N66 : STree := .fork own_G44 own_R1 own_N3
def own_N67 : STree := .fork own_G1 own_N65 own_N66
def own_N68 : STree := .fork own_G45 own_R1 own_N6
def own_N69 : STree := .fork own_G46 own_R1 own_N8
def own_N70 : STree := .fork own_G1 own_N68 own_N69
def own_N71 : STree := .fork own_G47 own_R1 own_N11
def own_N72 : STree := .fork own_G48 own_R1 own_N13
def own_N73 : STree := .fork own_G1 own_N71 own_N72
def own_N74 : STree := .fork own_G10 own_N70 own_N73
def own_N75 : STree := .fork own_G5 own_N67 own_N74
def own_N76 : STree := .fork own_G4 own_N64 own_N75
def own_N77 : STree := .fork own_G2 own_N53 own_N76
def own_N78 : STree := .fork own_G49 own_N17 own_N28
def own_N79 : STree := .fork own_G49 own_N40 own_N51
def own_N80 : STree := .fork own_G3 own_N78 own_N79
def own_N81 : STree := .fork own_G49 own_N64 own_N75
def own_N82 : STree := .fork own_G2 own_N80 own_N81
def own_N83 : STree := .fork own_G1 own_N77 own_N82
def own_tree : STree := own_N83
theorem own_g1 (p0 : Int32)  (s : State) (a b : STree) : Kit.valueOf #[.int p0] s (.fork own_G1 a b) = if (p0 &&& (128 : Int32)).toInt = 0 then Kit.valueOf #[.int p0] s a else Kit.valueOf #[.int p0] s b := own_fork (p := (p0 &&& (128 : Int32)).toInt = 0) (own_eq_i (x := (p0 &&& (128 : Int32))) (y := (0 : Int32)) (X := (p0 &&& (128 : Int32)).toInt) (Y := 0) rfl rfl rfl (by decide)) a b
theorem own_g2 (p0 : Int32)  (s : State) (a b : STree) : Kit.valueOf #[.int p0] s (.fork own_G2 a b) = if ¬ ((p0 &&& (127 : Int32)).toInt = 127) then Kit.valueOf #[.int p0] s a else Kit.valueOf #[.int p0] s b := own_fork (p := ¬ ((p0 &&& (127 : Int32)).toInt = 127)) (own_not (own_eq_i (x := (p0 &&& (127 : Int32))) (y := (127 : Int32)) (X := (p0 &&& (127 : Int32)).toInt) (Y := 127) rfl rfl rfl (by decide))) a b
theorem own_g3 (p0 : Int32)  (s : State) (a b : STree) : Kit.valueOf #[.int p0] s (.fork own_G3 a b) = if ¬ ((p0 &&& (127 : Int32)).toInt = 126) then Kit.valueOf #[.int p0] s a else Kit.valueOf #[.int p0] s b := own_fork (p := ¬ ((p0 &&& (127 : Int32)).toInt = 126)) (own_not (own_eq_i (x := (p0 &&& (127 : Int32))) (y := (126 : Int32)) (X := (p0 &&& (127 : Int32)).toInt) (Y := 126) rfl rfl rfl (by decide))) a b
theorem own_g4 (p0 : Int32) (s : State) (a b : STree) : Kit.valueOf #[.int p0] s (.fork own_G4 a b) = Kit.valueOf #[.int p0] s a := (own_fork (p := 0 = 0) (own_eq_i (x := (0 : Int32)) (y := (0 : Int32)) (X := 0) (Y := 0) rfl rfl (by decide) (by decide)) a b).trans (if_pos (by decide))
theorem own_g5 (p0 : Int32)  (s : State) (a b : STree) : Kit.valueOf #[.int p0] s (.fork own_G5 a b) = if (p0 &&& (127 : Int32)).toInt = 126 then Kit.valueOf #[.int p0] s a else Kit.valueOf #[.int p0] s b := own_fork (p := (p0 &&& (127 : Int32)).toInt = 126) (own_eq_i (x := (p0 &&& (127 : Int32))) (y := (126 : Int32)) (X := (p0 &&& (127 : Int32)).toInt) (Y := 126) rfl rfl rfl (by decide)) a b
theorem own_g6 (p0 : Int32) (s : State) (a b : STree) : Kit.valueOf #[.int p0] s (.fork own_G6 a b) = Kit.valueOf #[.int p0] s a := (own_fork (p := ¬ (4 = 2)) (own_not (own_eq_i (x := (4 : Int32)) (y := (2 : Int32)) (X := 4) (Y := 2) rfl rfl (by decide) (by decide))) a b).trans (if_pos (by decide))
theorem own_g7 (p0 : Int32) (s : State) (a b : STree) : Kit.valueOf #[.int p0] s (.fork own_G7 a b) = Kit.valueOf #[.int p0] s b := (own_fork (p := 14 < 4) (own_lt_i (x := (14 : Int32)) (y := (4 : Int32)) (X := 14) (Y := 4) rfl rfl (by decide) (by decide)) a b).trans (if_neg (by decide))
theorem own_g8 (p0 : Int32) (s : State) (a b : STree) : Kit.valueOf #[.int p0] s (.fork own_G8 a b) = Kit.valueOf #[.int p0] s a := (own_fork (p := ¬ (8 = 2)) (own_not (own_eq_i (x := (8 : Int32)) (y := (2 : Int32)) (X := 8) (Y := 2) rfl rfl (by decide) (by decide))) a b).trans (if_pos (by decide))
theorem own_g9 (p0 : Int32) (s : State) (a b : STree) : Kit.valueOf #[.int p0] s (.fork own_G9 a b) = Kit.valueOf #[.int p0] s b := (own_fork (p := 14 < 8) (own_lt_i (x := (14 : Int32)) (y := (8 : Int32)) (X := 14) (Y := 8) rfl rfl (by decide) (by decide)) a b).trans (if_neg (by decide))
theorem own_g10 (p0 : Int32)  (s : State) (a b : STree) : Kit.valueOf #[.int p0] s (.fork own_G10 a b) = if (p0 &&& (127 : Int32)).toInt = 127 then Kit.valueOf #[.int p0] s a else Kit.valueOf #[.int p0] s b := own_fork (p := (p0 &&& (127 : Int32)).toInt = 127) (own_eq_i (x := (p0 &&& (127 : Int32))) (y := (127 : Int32)) (X := (p0 &&& (127 : Int32)).toInt) (Y := 127) rfl rfl rfl (by decide)) a b
theorem own_g11 (p0 : Int32) (s : State) (a b : STree) : Kit.valueOf #[.int p0] s (.fork own_G11 a b) = Kit.valueOf #[.int p0] s a := (own_fork (p := ¬ (10 = 2)) (own_not (own_eq_i (x := (10 : Int32)) (y := (2 : Int32)) (X := 10) (Y := 2) rfl rfl (by decide) (by decide))) a b).trans (if_pos (by decide))
theorem own_g12 (p0 : Int32) (s : State) (a b : STree) : Kit.valueOf #[.int p0] s (.fork own_G12 a b) = Kit.valueOf #[.int p0] s b := (own_fork (p := 14 < 10) (own_lt_i (x := (14 : Int32)) (y := (10 : Int32)) (X := 14) (Y := 10) rfl rfl (by decide) (by decide)) a b).trans (if_neg (by decide))
theorem own_g13 (p0 : Int32) (s : State) (a b : STree) : Kit.valueOf #[.int p0] s (.fork own_G13 a b) = Kit.valueOf #[.int p0] s a := (own_fork (p := ¬ (14 = 2)) (own_not (own_eq_i (x := (14 : Int32)) (y := (2 : Int32)) (X := 14) (Y := 2) rfl rfl (by decide) (by decide))) a b).trans (if_pos (by decide))
theorem own_g14 (p0 : Int32) (s : State) (a b : STree) : Kit.valueOf #[.int p0] s (.fork own_G14 a b) = Kit.valueOf #[.int p0] s b := (own_fork (p := 14 < 14) (own_lt_i (x := (14 : Int32)) (y := (14 : Int32)) (X := 14) (Y := 14) rfl rfl (by decide) (by decide)) a b).trans (if_neg (by decide))
theorem own_g15 (p0 : Int32) (s : State) (a b : STree) : Kit.valueOf #[.int p0] s (.fork own_G15 a b) = Kit.valueOf #[.int p0] s b := (own_fork (p := ¬ (2 = 2)) (own_not (own_eq_i (x := (2 : Int32)) (y := (2 : Int32)) (X := 2) (Y := 2) rfl rfl (by decide) (by decide))) a b).trans (if_neg (by decide))
theorem own_g16 (p0 : Int32) (s : State) (a b : STree) : Kit.valueOf #[.int p0] s (.fork own_G16 a b) = Kit.valueOf #[.int p0] s b := (own_fork (p := 14 < 2) (own_lt_i (x := (14 : Int32)) (y := (2 : Int32)) (X := 14) (Y := 2) rfl rfl (by decide) (by decide)) a b).trans (if_neg (by decide))
theorem own_g17 (p0 : Int32) (s : State) (a b : STree) : Kit.valueOf #[.int p0] s (.fork own_G17 a b) = Kit.valueOf #[.int p0] s a := (own_fork (p := ¬ (6 = 2)) (own_not (own_eq_i (x := (6 : Int32)) (y := (2 : Int32)) (X := 6) (Y := 2) rfl rfl (by decide) (by decide))) a b).trans (if_pos (by decide))
theorem own_g18 (p0 : Int32) (s : State) (a b : STree) : Kit.valueOf #[.int p0] s (.fork own_G18 a b) = Kit.valueOf #[.int p0] s b := (own_fork (p := 14 < 6) (own_lt_i (x := (14 : Int32)) (y := (6 : Int32)) (X := 14) (Y := 6) rfl rfl (by decide) (by decide)) a b).trans (if_neg (by decide))
theorem own_g19 (p0 : Int32) (s : State) (a b : STree) : Kit.valueOf #[.int p0] s (.fork own_G19 a b) = Kit.valueOf #[.int p0] s a := (own_fork (p := ¬ (4 = 6)) (own_not (own_eq_i (x := (4 : Int32)) (y := (6 : Int32)) (X := 4) (Y := 6) rfl rfl (by decide) (by decide))) a b).trans (if_pos (by decide))
theorem own_g20 (p0 : Int32) (s : State) (a b : STree) : Kit.valueOf #[.int p0] s (.fork own_G20 a b) = Kit.valueOf #[.int p0] s a := (own_fork (p := ¬ (8 = 6)) (own_not (own_eq_i (x := (8 : Int32)) (y := (6 : Int32)) (X := 8) (Y := 6) rfl rfl (by decide) (by decide))) a b).trans (if_pos (by decide))
theorem own_g21 (p0 : Int32) (s : State) (a b : STree) : Kit.valueOf #[.int p0] s (.fork own_G21 a b) = Kit.valueOf #[.int p0] s a := (own_fork (p := ¬ (10 = 6)) (own_not (own_eq_i (x := (10 : Int32)) (y := (6 : Int32)) (X := 10) (Y := 6) rfl rfl (by decide) (by decide))) a b).trans (if_pos (by decide))
theorem own_g22 (p0 : Int32) (s : State) (a b : STree) : Kit.valueOf #[.int p0] s (.fork own_G22 a b) = Kit.valueOf #[.int p0] s a := (own_fork (p := ¬ (14 = 6)) (own_not (own_eq_i (x := (14 : Int32)) (y := (6 : Int32)) (X := 14) (Y := 6) rfl rfl (by decide) (by decide))) a b).trans (if_pos (by decide))
theorem own_g23 (p0 : Int32) (s : State) (a b : STree) : Kit.valueOf #[.int p0] s (.fork own_G23 a b) = Kit.valueOf #[.int p0] s a := (own_fork (p := ¬ (2 = 6)) (own_not (own_eq_i (x := (2 : Int32)) (y := (6 : Int32)) (X := 2) (Y := 6) rfl rfl (by decide) (by decide))) a b).trans (if_pos (by decide))
theorem own_g24 (p0 : Int32) (s : State) (a b : STree) : Kit.valueOf #[.int p0] s (.fork own_G24 a b) = Kit.valueOf #[.int p0] s b := (own_fork (p := ¬ (6 = 6)) (own_not (own_eq_i (x := (6 : Int32)) (y := (6 : Int32)) (X := 6) (Y := 6) rfl rfl (by decide) (by decide))) a b).trans (if_neg (by decide))
theorem own_g25 (p0 : Int32) (s : State) (a b : STree) : Kit.valueOf #[.int p0] s (.fork own_G25 a b) = Kit.valueOf #[.int p0] s b := (own_fork (p := ¬ (4 = 4)) (own_not (own_eq_i (x := (4 : Int32)) (y := (4 : Int32)) (X := 4) (Y := 4) rfl rfl (by decide) (by decide))) a b).trans (if_neg (by decide))
theorem own_g26 (p0 : Int32) (s : State) (a b : STree) : Kit.valueOf #[.int p0] s (.fork own_G26 a b) = Kit.valueOf #[.int p0] s a := (own_fork (p := ¬ (8 = 4)) (own_not (own_eq_i (x := (8 : Int32)) (y := (4 : Int32)) (X := 8) (Y := 4) rfl rfl (by decide) (by decide))) a b).trans (if_pos (by decide))
theorem own_g27 (p0 : Int32) (s : State) (a b : STree) : Kit.valueOf #[.int p0] s (.fork own_G27 a b) = Kit.valueOf #[.int p0] s a := (own_fork (p := ¬ (10 = 4)) (own_not (own_eq_i (x := (10 : Int32)) (y := (4 : Int32)) (X := 10) (Y := 4) rfl rfl (by decide) (by decide))) a b).trans (if_pos (by decide))
theorem own_g28 (p0 : Int32) (s : State) (a b : STree) : Kit.valueOf #[.int p0] s (.fork own_G28 a b) = Kit.valueOf #[.int p0] s a := (own_fork (p := ¬ (14 = 4)) (own_not (own_eq_i (x := (14 : Int32)) (y := (4 : Int32)) (X := 14) (Y := 4) rfl rfl (by decide) (by decide))) a b).trans (if_pos (by decide))
theorem own_g29 (p0 : Int32) (s : State) (a b : STree) : Kit.valueOf #[.int p0] s (.fork own_G29 a b) = Kit.valueOf #[.int p0] s a := (own_fork (p := ¬ (2 = 4)) (own_not (own_eq_i (x := (2 : Int32)) (y := (4 : Int32)) (X := 2) (Y := 4) rfl rfl (by decide) (by decide))) a b).trans (if_pos (by decide))
theorem own_g30 (p0 : Int32) (s : State) (a b : STree) : Kit.valueOf #[.int p0] s (.fork own_G30 a b) = Kit.valueOf #[.int p0] s a := (own_fork (p := ¬ (6 = 4)) (own_not (own_eq_i (x := (6 : Int32)) (y := (4 : Int32)) (X := 6) (Y := 4) rfl rfl (by decide) (by decide))) a b).trans (if_pos (by decide))
theorem own_g31 (p0 : Int32) (s : State) (a b : STree) : Kit.valueOf #[.int p0] s (.fork own_G31 a b) = Kit.valueOf #[.int p0] s a := (own_fork (p := ¬ (4 = 8)) (own_not (own_eq_i (x := (4 : Int32)) (y := (8 : Int32)) (X := 4) (Y := 8) rfl rfl (by decide) (by decide))) a b).trans (if_pos (by decide))
theorem own_g32 (p0 : Int32) (s : State) (a b : STree) : Kit.valueOf #[.int p0] s (.fork own_G32 a b) = Kit.valueOf #[.int p0] s b := (own_fork (p := ¬ (8 = 8)) (own_not (own_eq_i (x := (8 : Int32)) (y := (8 : Int32)) (X := 8) (Y := 8) rfl rfl (by decide) (by decide))) a b).trans (if_neg (by decide))
theorem own_g33 (p0 : Int32) (s : State) (a b : STree) : Kit.valueOf #[.int p0] s (.fork own_G33 a b) = Kit.valueOf #[.int p0] s a := (own_fork (p := ¬ (10 = 8)) (own_not (own_eq_i (x := (10 : Int32)) (y := (8 : Int32)) (X := 10) (Y := 8) rfl rfl (by decide) (by decide))) a b).trans (if_pos (by decide))
theorem own_g34 (p0 : Int32) (s : State) (a b : STree) : Kit.valueOf #[.int p0] s (.fork own_G34 a b) = Kit.valueOf #[.int p0] s a := (own_fork (p := ¬ (14 = 8)) (own_not (own_eq_i (x := (14 : Int32)) (y := (8 : Int32)) (X := 14) (Y := 8) rfl rfl (by decide) (by decide))) a b).trans (if_pos (by decide))
theorem own_g35 (p0 : Int32) (s : State) (a b : STree) : Kit.valueOf #[.int p0] s (.fork own_G35 a b) = Kit.valueOf #[.int p0] s a := (own_fork (p := ¬ (2 = 8)) (own_not (own_eq_i (x := (2 : Int32)) (y := (8 : Int32)) (X := 2) (Y := 8) rfl rfl (by decide) (by decide))) a b).trans (if_pos (by decide))
theorem own_g36 (p0 : Int32) (s : State) (a b : STree) : Kit.valueOf #[.int p0] s (.fork own_G36 a b) = Kit.valueOf #[.int p0] s a := (own_fork (p := ¬ (6 = 8)) (own_not (own_eq_i (x := (6 : Int32)) (y := (8 : Int32)) (X := 6) (Y := 8) rfl rfl (by decide) (by decide))) a b).trans (if_pos (by decide))
theorem own_g37 (p0 : Int32) (s : State) (a b : STree) : Kit.valueOf #[.int p0] s (.fork own_G37 a b) = Kit.valueOf #[.int p0] s a := (own_fork (p := ¬ (4 = 10)) (own_not (own_eq_i (x := (4 : Int32)) (y := (10 : Int32)) (X := 4) (Y := 10) rfl rfl (by decide) (by decide))) a b).trans (if_pos (by decide))
theorem own_g38 (p0 : Int32) (s : State) (a b : STree) : Kit.valueOf #[.int p0] s (.fork own_G38 a b) = Kit.valueOf #[.int p0] s a := (own_fork (p := ¬ (8 = 10)) (own_not (own_eq_i (x := (8 : Int32)) (y := (10 : Int32)) (X := 8) (Y := 10) rfl rfl (by decide) (by decide))) a b).trans (if_pos (by decide))
theorem own_g39 (p0 : Int32) (s : State) (a b : STree) : Kit.valueOf #[.int p0] s (.fork own_G39 a b) = Kit.valueOf #[.int p0] s b := (own_fork (p := ¬ (10 = 10)) (own_not (own_eq_i (x := (10 : Int32)) (y := (10 : Int32)) (X := 10) (Y := 10) rfl rfl (by decide) (by decide))) a b).trans (if_neg (by decide))
theorem own_g40 (p0 : Int32) (s : State) (a b : STree) : Kit.valueOf #[.int p0] s (.fork own_G40 a b) = Kit.valueOf #[.int p0] s a := (own_fork (p := ¬ (14 = 10)) (own_not (own_eq_i (x := (14 : Int32)) (y := (10 : Int32)) (X := 14) (Y := 10) rfl rfl (by decide) (by decide))) a b).trans (if_pos (by decide))
theorem own_g41 (p0 : Int32) (s : State) (a b : STree) : Kit.valueOf #[.int p0] s (.fork own_G41 a b) = Kit.valueOf #[.int p0] s a := (own_fork (p := ¬ (2 = 10)) (own_not (own_eq_i (x := (2 : Int32)) (y := (10 : Int32)) (X := 2) (Y := 10) rfl rfl (by decide) (by decide))) a b).trans (if_pos (by decide))
theorem own_g42 (p0 : Int32) (s : State) (a b : STree) : Kit.valueOf #[.int p0] s (.fork own_G42 a b) = Kit.valueOf #[.int p0] s a := (own_fork (p := ¬ (6 = 10)) (own_not (own_eq_i (x := (6 : Int32)) (y := (10 : Int32)) (X := 6) (Y := 10) rfl rfl (by decide) (by decide))) a b).trans (if_pos (by decide))
theorem own_g43 (p0 : Int32) (s : State) (a b : STree) : Kit.valueOf #[.int p0] s (.fork own_G43 a b) = Kit.valueOf #[.int p0] s a := (own_fork (p := ¬ (4 = 14)) (own_not (own_eq_i (x := (4 : Int32)) (y := (14 : Int32)) (X := 4) (Y := 14) rfl rfl (by decide) (by decide))) a b).trans (if_pos (by decide))
theorem own_g44 (p0 : Int32) (s : State) (a b : STree) : Kit.valueOf #[.int p0] s (.fork own_G44 a b) = Kit.valueOf #[.int p0] s a := (own_fork (p := ¬ (8 = 14)) (own_not (own_eq_i (x := (8 : Int32)) (y := (14 : Int32)) (X := 8) (Y := 14) rfl rfl (by decide) (by decide))) a b).trans (if_pos (by decide))
theorem own_g45 (p0 : Int32) (s : State) (a b : STree) : Kit.valueOf #[.int p0] s (.fork own_G45 a b) = Kit.valueOf #[.int p0] s a := (own_fork (p := ¬ (10 = 14)) (own_not (own_eq_i (x := (10 : Int32)) (y := (14 : Int32)) (X := 10) (Y := 14) rfl rfl (by decide) (by decide))) a b).trans (if_pos (by decide))
theorem own_g46 (p0 : Int32) (s : State) (a b : STree) : Kit.valueOf #[.int p0] s (.fork own_G46 a b) = Kit.valueOf #[.int p0] s b := (own_fork (p := ¬ (14 = 14)) (own_not (own_eq_i (x := (14 : Int32)) (y := (14 : Int32)) (X := 14) (Y := 14) rfl rfl (by decide) (by decide))) a b).trans (if_neg (by decide))
theorem own_g47 (p0 : Int32) (s : State) (a b : STree) : Kit.valueOf #[.int p0] s (.fork own_G47 a b) = Kit.valueOf #[.int p0] s a := (own_fork (p := ¬ (2 = 14)) (own_not (own_eq_i (x := (2 : Int32)) (y := (14 : Int32)) (X := 2) (Y := 14) rfl rfl (by decide) (by decide))) a b).trans (if_pos (by decide))
theorem own_g48 (p0 : Int32) (s : State) (a b : STree) : Kit.valueOf #[.int p0] s (.fork own_G48 a b) = Kit.valueOf #[.int p0] s a := (own_fork (p := ¬ (6 = 14)) (own_not (own_eq_i (x := (6 : Int32)) (y := (14 : Int32)) (X := 6) (Y := 14) rfl rfl (by decide) (by decide))) a b).trans (if_pos (by decide))
theorem own_g49 (p0 : Int32) (s : State) (a b : STree) : Kit.valueOf #[.int p0] s (.fork own_G49 a b) = Kit.valueOf #[.int p0] s b := (own_fork (p := 1 = 0) (own_eq_i (x := (1 : Int32)) (y := (0 : Int32)) (X := 1) (Y := 0) rfl rfl (by decide) (by decide)) a b).trans (if_neg (by decide))
theorem own_r1 (p0 : Int32) (s : State) : Kit.valueOf #[.int p0] s own_R1 = some (.int (0)) := rfl
theorem own_r2 (p0 : Int32) (s : State) : Kit.valueOf #[.int p0] s own_R2 = some (.int (1)) := rfl
theorem own_tr : (own_w.get own_some).1 = own_tree := by decide +kernel
theorem own_walk : walkTo own_I code [] 600 true (entry [.int] maxLocals) = some (own_tree, (own_w.get own_some).2.1, (own_w.get own_some).2.2) := own_join own_some own_tr
set_option maxRecDepth 65536 in
set_option maxHeartbeats 4000000 in
theorem own_value (p0 : Int32) (s : State) : Kit.valueOf #[.int p0] s own_tree = some (.int 1) := by
  simp only [own_tree, own_N1, own_N2, own_N3, own_N4, own_N5, own_N6, own_N7, own_N8, own_N9, own_N10, own_N11, own_N12, own_N13, own_N14, own_N15, own_N16, own_N17, own_N18, own_N19, own_N20, own_N21, own_N22, own_N23, own_N24, own_N25, own_N26, own_N27, own_N28, own_N29, own_N30, own_N31, own_N32, own_N33, own_N34, own_N35, own_N36, own_N37, own_N38, own_N39, own_N40, own_N41, own_N42, own_N43, own_N44, own_N45, own_N46, own_N47, own_N48, own_N49, own_N50, own_N51, own_N52, own_N53, own_N54, own_N55, own_N56, own_N57, own_N58, own_N59, own_N60, own_N61, own_N62, own_N63, own_N64, own_N65, own_N66, own_N67, own_N68, own_N69, own_N70, own_N71, own_N72, own_N73, own_N74, own_N75, own_N76, own_N77, own_N78, own_N79, own_N80, own_N81, own_N82, own_N83, own_g1, own_g2, own_g3, own_g4, own_g5, own_g6, own_g7, own_g8, own_g9, own_g10, own_g11, own_g12, own_g13, own_g14, own_g15, own_g16, own_g17, own_g18, own_g19, own_g20, own_g21, own_g22, own_g23, own_g24, own_g25, own_g26, own_g27, own_g28, own_g29, own_g30, own_g31, own_g32, own_g33, own_g34, own_g35, own_g36, own_g37, own_g38, own_g39, own_g40, own_g41, own_g42, own_g43, own_g44, own_g45, own_g46, own_g47, own_g48, own_g49, own_r1, own_r2]
  skip
  repeat' (first | with_reducible rfl | (exfalso; omega) | split)
theorem own_val (L : List Value) (h : own_fit [.int] L) (s : State) : Kit.valueOf L.toArray s own_tree = some (.int 1) := by
  obtain ⟨p0, L0, rfl, h1⟩ := own_fit_int h
  obtain rfl := own_fit_nil h1
  exact own_value p0 s
theorem own_met (l : Launch) : MeetsLoose l x (armSpec x code maxLocals ret tables_1 room_1 .tt (.and given_1 narrow_1) own_post frame_1_writes frame_1_arrays frame_1_statics) :=
  own_law [] (by decide) rfl rfl own_walk (by decide +kernel) (by decide +kernel) (by decide +kernel) (fun _ _ _ q hq => by cases hq) (by decide +kernel) own_val (own_ok l)
theorem main_1_1 : Claimed_1_1 := armFor_of_meets0 (fun l => (own_met l).meets) fun _ _ _ _ h => by simp only [own_post, Cond.after_and, Bool.and_eq_true] at h; exact h.1
theorem main_1_2 : Claimed_1_2 := armFor_of_meets0 (fun l => (own_met l).meets) fun _ _ _ _ h => by simp only [own_post, Cond.after_and, Bool.and_eq_true] at h; exact h.2
end Jvm.Pilot.@@N@@
namespace Jvm.Pilot.@@N@@
open Jvm Jvm.ClassFile Sem Op Lib Jvm.Free Jvm.Stand Jvm.Pilot.@@N@@.Jvm.D
/-! MADE BY PROGRAM (witnessworld.py) out of the Statement's table words and the real class files: 9 classes; the members and pool entries that the words name. The judged class is class 1, her method 1. -/
namespace start1
open Jvm.ClassFile
def u (s : String) : CpInfo := .utf8 (stringToUtf16 s)
/-- a pool by its gaps: so many unusable entries, then the entry; so many at the end -/
def gap : Nat → List CpInfo → List CpInfo
  | 0, r => r
  | n + 1, r => .unusable :: gap n r
def poolList (es : List (Nat × CpInfo)) (last : Nat) : List CpInfo := es.foldr (fun e r => gap e.1 (e.2 :: r)) (gap last [])
def pool (es : List (Nat × CpInfo)) (last : Nat) : Array CpInfo := ⟨poolList es last⟩
def fileOf (pool : Array CpInfo) (this : Nat) (attrs : Array Attribute := #[]) (ms : Array MethodInfo := #[]) (fl : Nat := 33) (sup : Nat := 0) (ifs : Array Nat := #[]) (fds : Array FieldInfo := #[]) : ClassFile where
  minorVersion := 0
  majorVersion := 65
  constantPool := pool
  accessFlags := fl
  thisClass := this
  superClass := sup
  interfaces := ifs
  fields := fds
  methods := ms
  attributes := attrs
def plain (name : String) (sup : Option ClassId) : Class where
  name := name
  kind := .ordinary
  loader := none
  accessFlags := 33
  super := sup
  interfaces := #[]
  cf := none
  fields := #[]
  methods := #[]
  instanceTypes := #[]
  staticTypes := #[]
  resolved := #[]
  callSites := []
  init := .initialized
  statics := none
  mirror := none

def pool0 : Array CpInfo := pool [(5, u "<init>"), (0, u "()V"), (1, .class_ 10), (1, u "java/lang/Object")] 113

def k0m0 : Method := { name := "<init>", desc := "()V", sig := { parameters := [], returnType := none }, accessFlags := 1, code := none }
/-- java/lang/Object -/
def k0 : Class := { plain "java/lang/Object" none with
  accessFlags := 33
  interfaces := #[]
  cf := some (fileOf pool0 8 #[] #[{ accessFlags := 1, nameIndex := 5, descriptorIndex := 6, attributes := #[] }] 33 0 #[] #[])
  fields := #[]
  methods := #[k0m0]
  instanceTypes := #[]
  staticTypes := #[]
  resolved := Array.replicate 124 none
  statics := none }

def pool1 : Array CpInfo := pool [(2, .class_ 4), (1, u "java/lang/Object"), (0, u "<init>"), (0, u "()V"), (0, .methodref 8 9), (0, .class_ 10), (0, .nameAndType 11 12), (0, u "com/example/terse_broker/tersebroker/websocket/Frames"), (0, u "headSize"), (0, u "(I)I"), (0, .class_ 14), (0, u "com/example/terse_broker/tersebroker/websocket/FramesHeadSizePinLaw"), (2, u "law"), (0, u "(I)Z")] 3

def k1m0 : Method := { name := "<init>", desc := "()V", sig := { parameters := [], returnType := none }, accessFlags := 2, code := none }
def k1c1 : Code := { maxStack := 2, maxLocals := 5, code := code, exceptionTable := #[], attributes := #[] }
def k1m1 : Method := { name := "law", desc := "(I)Z", sig := { parameters := [.int], returnType := some .boolean }, accessFlags := 9, code := some k1c1 }
/-- com/example/terse_broker/tersebroker/websocket/FramesHeadSizePinLaw -/
def k1 : Class := { plain "com/example/terse_broker/tersebroker/websocket/FramesHeadSizePinLaw" (some 0) with
  accessFlags := 49
  interfaces := #[]
  cf := some (fileOf pool1 13 #[] #[{ accessFlags := 2, nameIndex := 5, descriptorIndex := 6, attributes := #[] }, { accessFlags := 9, nameIndex := 17, descriptorIndex := 18, attributes := #[] }] 49 2 #[] #[])
  fields := #[]
  methods := #[k1m0, k1m1]
  instanceTypes := #[]
  staticTypes := #[]
  resolved := Array.replicate 22 none
  statics := none }

def pool2 : Array CpInfo := pool [(2, .class_ 4), (1, u "java/lang/Object"), (0, u "<init>"), (0, u "()V"), (0, .class_ 8), (0, u "com/example/terse_broker/tersebroker/websocket/Frames"), (25, u "headSize"), (0, u "(I)I"), (17, .class_ 54), (0, u "com/example/terse_broker/tersebroker/websocket/Frames$Head"), (89, .class_ 145), (0, u "com/example/terse_broker/tersebroker/websocket/Frames$Failure"), (5, .class_ 152), (0, u "com/example/terse_broker/tersebroker/websocket/Frames$Close"), (27, u "LONGS"), (0, u "Ljava/lang/invoke/VarHandle;"), (39, u "CONTINUATION"), (0, u "I"), (2, u "TEXT"), (1, u "BINARY"), (1, u "CLOSE"), (1, u "PING"), (1, u "PONG"), (1, u "LARGEST_CONTROL_PAYLOAD"), (1, u "NORMAL_CLOSURE"), (1, u "PROTOCOL_ERROR"), (1, u "UNSUPPORTED_DATA"), (1, u "NO_STATUS"), (1, u "INVALID_PAYLOAD"), (1, u "POLICY_VIOLATION"), (1, u "MESSAGE_TOO_BIG"), (1, u "LARGEST_HEAD_SIZE"), (1, u "FINAL"), (1, u "RESERVED"), (1, u "OPCODE"), (1, u "MASKED"), (0, u "LENGTH"), (1, u "LENGTH_16"), (1, u "LENGTH_64")] 40

def k2m0 : Method := { name := "<init>", desc := "()V", sig := { parameters := [], returnType := none }, accessFlags := 2, code := none }
def k2c1 : Code := { maxStack := 2, maxLocals := 4, code := prog_115_method_2_code, exceptionTable := #[], attributes := #[] }
def k2m1 : Method := { name := "headSize", desc := "(I)I", sig := { parameters := [.int], returnType := some .int }, accessFlags := 9, code := some k2c1 }
/-- com/example/terse_broker/tersebroker/websocket/Frames -/
def k2 : Class := { plain "com/example/terse_broker/tersebroker/websocket/Frames" (some 0) with
  accessFlags := 33
  interfaces := #[]
  cf := some (fileOf pool2 7 #[.nestMembers #[144, 151, 53]] #[{ accessFlags := 2, nameIndex := 5, descriptorIndex := 6, attributes := #[] }, { accessFlags := 9, nameIndex := 34, descriptorIndex := 35, attributes := #[] }] 33 2 #[] #[{ accessFlags := 25, nameIndex := 221, descriptorIndex := 222, attributes := #[] }, { accessFlags := 25, nameIndex := 225, descriptorIndex := 222, attributes := #[] }, { accessFlags := 25, nameIndex := 227, descriptorIndex := 222, attributes := #[] }, { accessFlags := 25, nameIndex := 229, descriptorIndex := 222, attributes := #[] }, { accessFlags := 25, nameIndex := 231, descriptorIndex := 222, attributes := #[] }, { accessFlags := 25, nameIndex := 233, descriptorIndex := 222, attributes := #[] }, { accessFlags := 25, nameIndex := 235, descriptorIndex := 222, attributes := #[] }, { accessFlags := 25, nameIndex := 237, descriptorIndex := 222, attributes := #[] }, { accessFlags := 25, nameIndex := 239, descriptorIndex := 222, attributes := #[] }, { accessFlags := 25, nameIndex := 241, descriptorIndex := 222, attributes := #[] }, { accessFlags := 25, nameIndex := 243, descriptorIndex := 222, attributes := #[] }, { accessFlags := 25, nameIndex := 245, descriptorIndex := 222, attributes := #[] }, { accessFlags := 25, nameIndex := 247, descriptorIndex := 222, attributes := #[] }, { accessFlags := 25, nameIndex := 249, descriptorIndex := 222, attributes := #[] }, { accessFlags := 25, nameIndex := 251, descriptorIndex := 222, attributes := #[] }, { accessFlags := 26, nameIndex := 253, descriptorIndex := 222, attributes := #[] }, { accessFlags := 26, nameIndex := 255, descriptorIndex := 222, attributes := #[] }, { accessFlags := 26, nameIndex := 257, descriptorIndex := 222, attributes := #[] }, { accessFlags := 26, nameIndex := 259, descriptorIndex := 222, attributes := #[] }, { accessFlags := 26, nameIndex := 260, descriptorIndex := 222, attributes := #[] }, { accessFlags := 26, nameIndex := 262, descriptorIndex := 222, attributes := #[] }, { accessFlags := 26, nameIndex := 264, descriptorIndex := 222, attributes := #[] }, { accessFlags := 26, nameIndex := 180, descriptorIndex := 181, attributes := #[] }])
  fields := #[{ name := "CONTINUATION", type := .int, accessFlags := 25, slot := 0, constantValue := 0 }, { name := "TEXT", type := .int, accessFlags := 25, slot := 1, constantValue := 0 }, { name := "BINARY", type := .int, accessFlags := 25, slot := 2, constantValue := 0 }, { name := "CLOSE", type := .int, accessFlags := 25, slot := 3, constantValue := 0 }, { name := "PING", type := .int, accessFlags := 25, slot := 4, constantValue := 0 }, { name := "PONG", type := .int, accessFlags := 25, slot := 5, constantValue := 0 }, { name := "LARGEST_CONTROL_PAYLOAD", type := .int, accessFlags := 25, slot := 6, constantValue := 0 }, { name := "NORMAL_CLOSURE", type := .int, accessFlags := 25, slot := 7, constantValue := 0 }, { name := "PROTOCOL_ERROR", type := .int, accessFlags := 25, slot := 8, constantValue := 0 }, { name := "UNSUPPORTED_DATA", type := .int, accessFlags := 25, slot := 9, constantValue := 0 }, { name := "NO_STATUS", type := .int, accessFlags := 25, slot := 10, constantValue := 0 }, { name := "INVALID_PAYLOAD", type := .int, accessFlags := 25, slot := 11, constantValue := 0 }, { name := "POLICY_VIOLATION", type := .int, accessFlags := 25, slot := 12, constantValue := 0 }, { name := "MESSAGE_TOO_BIG", type := .int, accessFlags := 25, slot := 13, constantValue := 0 }, { name := "LARGEST_HEAD_SIZE", type := .int, accessFlags := 25, slot := 14, constantValue := 0 }, { name := "FINAL", type := .int, accessFlags := 26, slot := 15, constantValue := 0 }, { name := "RESERVED", type := .int, accessFlags := 26, slot := 16, constantValue := 0 }, { name := "OPCODE", type := .int, accessFlags := 26, slot := 17, constantValue := 0 }, { name := "MASKED", type := .int, accessFlags := 26, slot := 18, constantValue := 0 }, { name := "LENGTH", type := .int, accessFlags := 26, slot := 19, constantValue := 0 }, { name := "LENGTH_16", type := .int, accessFlags := 26, slot := 20, constantValue := 0 }, { name := "LENGTH_64", type := .int, accessFlags := 26, slot := 21, constantValue := 0 }, { name := "LONGS", type := (.object "java/lang/invoke/VarHandle"), accessFlags := 26, slot := 22, constantValue := 0 }]
  methods := #[k2m0, k2m1]
  instanceTypes := #[]
  staticTypes := #[.int, .int, .int, .int, .int, .int, .int, .int, .int, .int, .int, .int, .int, .int, .int, .int, .int, .int, .int, .int, .int, .int, (.object "java/lang/invoke/VarHandle")]
  resolved := Array.replicate 305 none
  statics := none }

def pool3 : Array CpInfo := pool [(1, u "java/lang/Cloneable"), (0, .class_ 1), (0, u "java/lang/Object"), (0, .class_ 3)] 3

/-- java/lang/Cloneable -/
def k3 : Class := { plain "java/lang/Cloneable" (some 0) with
  accessFlags := 1537
  interfaces := #[]
  cf := some (fileOf pool3 2 #[] #[] 1537 4 #[] #[])
  fields := #[]
  methods := #[]
  instanceTypes := #[]
  staticTypes := #[]
  resolved := Array.replicate 8 none
  statics := none }

def pool4 : Array CpInfo := pool [(1, u "java/io/Serializable"), (0, .class_ 1), (0, u "java/lang/Object"), (0, .class_ 3)] 3

/-- java/io/Serializable -/
def k4 : Class := { plain "java/io/Serializable" (some 0) with
  accessFlags := 1537
  interfaces := #[]
  cf := some (fileOf pool4 2 #[] #[] 1537 4 #[] #[])
  fields := #[]
  methods := #[]
  instanceTypes := #[]
  staticTypes := #[]
  resolved := Array.replicate 8 none
  statics := none }

/-- the primitive byte -/
def k5 : Class := { plain "byte" none with kind := .primitive 'B', accessFlags := 0x411 }
/-- [B -/
def k6 : Class := { plain "[B" (some 0) with kind := .array 5 .byte, interfaces := #[3, 4], accessFlags := 1041 }

/-- the primitive int -/
def k7 : Class := { plain "int" none with kind := .primitive 'I', accessFlags := 0x411 }
/-- [I -/
def k8 : Class := { plain "[I" (some 0) with kind := .array 7 .int, interfaces := #[3, 4], accessFlags := 1041 }

def heap : Heap := #[]
def classes : Array Class := #[k0, k1, k2, k3, k4, k5, k6, k7, k8]
def interned : List (Array UInt16 × Addr) := []
def slotsUsed : Nat := 0
def theMethod : MethodId := ⟨1, 1⟩
def args0 : Array Value := #[.int 70]
def aboutOver (below : List Frame) : State where
  vm := { classes := classes, interned := interned.toArray }
  heap := heap
  slotsUsed := slotsUsed
  threads := #[{ frames := .invoking theMethod args0 :: below }]
def below0 : List Frame := [.native { method := ⟨0, 0⟩, args := #[] }]
def about1 : State := aboutOver below0
def p0 : Program := .bare "" "" ""
def e0 : Env := launch0.env 0 0 0
theorem w_frames : about1.frames = Frame.invoking theMethod args0 :: below0 := rfl
set_option maxRecDepth 65536 in
theorem w_args : argsFit about1.vm theMethod args0 = true := by decide +kernel
set_option maxRecDepth 65536 in
theorem w_heap : heapFits about1 = true := by decide +kernel
set_option maxRecDepth 65536 in
theorem w_runnable : about1.curStatus? = some .runnable := by decide +kernel
set_option maxRecDepth 65536 in
theorem w_alone : about1.alone = true := by decide +kernel
set_option maxRecDepth 65536 in
theorem w_named : about1.methodNamed? x = some theMethod := by decide +kernel
set_option maxRecDepth 65536 in
theorem w_hears : about1.hears theMethod below0 = true := by decide +kernel
set_option maxRecDepth 65536 in
theorem w_ripe : about1.ripe theMethod args0 below0 = true := by decide +kernel
theorem w_running : about1.status = .running := rfl
set_option maxRecDepth 65536 in
theorem w_room : about1.hasRoom e0.platform room_1 = true :=
  launch0.hasRoom_least _ room_1 (by decide +kernel) (by decide +kernel) (by decide +kernel) (by decide +kernel) (by decide +kernel) (by decide +kernel)
theorem allAtoms_all (ts : List Jvm.Cond) (a : Array Jvm.Value) (st : Jvm.State) : (allAtoms ts).before a st = ts.all (fun c => c.before a st) := by
  induction ts with
  | nil => rfl
  | cons c t ih =>
    show (Jvm.Cond.and c (allAtoms t)).before a st = _
    rw [Jvm.Cond.before_and, ih, List.all_cons]
def words1 : List Jvm.Cond := Jvm.Cond.code x code maxLocals ret :: tables_1
/-- a 'code' word, met by the world's own term for the bytes: nothing is compared byte by byte -/
theorem code_word {y : MethodName} {bytes : ByteArray} {mx : Nat} {rt : Option FieldType} {a : Array Value} {s : State} {m : MethodId} {meth : Method} {c : Code} (h1 : s.methodNamed? y = some m) (h2 : s.vm.method? m = some meth) (h3 : meth.code = some c) (h4 : c.code = bytes)
    (h5 : (c.maxLocals == mx && c.exceptionTable.isEmpty && decide (c.maxStack ≤ mostOperands) && decide (meth.sig.returnType = rt) && !meth.locks && decide (parseMethodDescriptor y.desc = some meth.sig)) = true) : (Jvm.Cond.code y bytes mx rt).before a s = true := by
  simp only [Bool.and_eq_true, beq_iff_eq, Bool.not_eq_true', decide_eq_true_eq] at h5
  obtain ⟨⟨⟨⟨⟨g1, g2⟩, g3⟩, g4⟩, g5⟩, g6⟩ := h5
  simp [Cond.before, Cond.holds, Cond.value, h1, h2, h3, h4, g1, g2, g3, g4, g5, g6]
def isCode : Jvm.Cond → Bool
  | .code _ _ _ _ => true
  | _ => false
theorem all_split {L : List Jvm.Cond} {P : Jvm.Cond → Bool} (h1 : L.all (fun c => isCode c || P c) = true) (h2 : ∀ c ∈ L.filter isCode, P c = true) : L.all P = true := by
  refine List.all_eq_true.mpr fun c hc => ?_
  have h := List.all_eq_true.mp h1 c hc
  rcases Bool.eq_false_or_eq_true (isCode c) with hi | hi
  · exact h2 c (List.mem_filter.mpr ⟨hc, hi⟩)
  · simpa [hi] using h
set_option maxRecDepth 65536 in
theorem w_c0 : (Jvm.Cond.code x code maxLocals ret).before args0 about1 = true := code_word (m := ⟨1, 1⟩) (meth := k1m1) (c := k1c1) (by decide +kernel) rfl rfl rfl (by decide +kernel)
set_option maxRecDepth 65536 in
theorem w_c1 : (Jvm.Cond.code ({ cls := "com/example/terse_broker/tersebroker/websocket/Frames", name := "headSize", desc := "(I)I" } : Jvm.MethodName) prog_115_method_2_code (4 : Nat) (Option.some Jvm.ClassFile.FieldType.int)).before args0 about1 = true := code_word (m := ⟨2, 1⟩) (meth := k2m1) (c := k2c1) (by decide +kernel) rfl rfl rfl (by decide +kernel)
def codes1 : List Jvm.Cond := [Jvm.Cond.code x code maxLocals ret, Jvm.Cond.code ({ cls := "com/example/terse_broker/tersebroker/websocket/Frames", name := "headSize", desc := "(I)I" } : Jvm.MethodName) prog_115_method_2_code (4 : Nat) (Option.some Jvm.ClassFile.FieldType.int)]
set_option maxRecDepth 65536 in
theorem codes_eq : words1.filter isCode = codes1 := rfl
theorem w_codes : ∀ c ∈ words1.filter isCode, c.before args0 about1 = true := by
  rw [codes_eq]
  intro c hc
  simp only [codes1, List.mem_cons, List.not_mem_nil, or_false] at hc
  rcases hc with rfl | rfl
  · exact w_c0
  · exact w_c1
set_option maxRecDepth 65536 in
theorem w_t1 : words1.all (fun c => isCode c || c.before args0 about1) = true := by decide +kernel
theorem w_tables : (allAtoms (Jvm.Cond.code x code maxLocals ret :: tables_1)).before args0 about1 = true := by
  rw [allAtoms_all]
  show words1.all (fun c => c.before args0 about1) = true
  refine all_split ?_ w_codes
  rw [w_t1]
set_option maxRecDepth 65536 in
theorem w_case : (Jvm.Cond.and given_1 narrow_1).before args0 about1 = true := by decide +kernel
theorem w_applies : (headSpec (Jvm.Cond.code x code maxLocals ret :: tables_1) room_1).applies x e0.platform about1 = true :=
  (Spec.applies_iff w_frames).mpr ⟨w_running, w_runnable, w_alone, w_named, w_hears, w_ripe, w_room, w_tables⟩
theorem atStart : AtStart classFile x code maxLocals ret World_1 tables_1 room_1 Calls_1 rest_1 Pre_1 launch0 p0 e0 about1 theMethod args0 below0 :=
  ⟨lists_1, trivial, launch0.admits_env _ _ _, launch0.least_env, fairChoices_fair.cas, fairChoices_fair.clock, w_frames, w_args, w_heap, w_applies, trivial, trivial, w_case⟩
end start1
theorem witness_1 : WitnessClaimed_1 := ⟨start1.p0, start1.e0, start1.about1, start1.theMethod, start1.args0, start1.below0, start1.atStart⟩
end Jvm.Pilot.@@N@@
